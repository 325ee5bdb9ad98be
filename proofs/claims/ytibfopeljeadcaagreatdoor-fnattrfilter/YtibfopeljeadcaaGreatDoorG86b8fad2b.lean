/- Texts that the proofs of the cards rest on, part 2. -/
import Derived.Test.YtibfopeljeadcaaGreatDoorG0024715fb
import Derived.WalkKit
import Derived.Lib.Bytealg
import Derived.Laws.IdiomStrings
import Derived.Lib.AppendStr
import Derived.OpenShut
import Derived.Below
import Derived.Carry
import Derived.MapKept
/-! Data: slices that stay, values of attributes as trees, how they read in memory. Generic: no program is named. -/
namespace Go.Sx
open Go Go.RowKit

/-! ## Statements whose order is open: the form in which the walks use the rule -/
section
variable {P : Program} {ops : Array Oper} {Q : Exit → Act → World → Prop} {N : Nat} {F : List (Nat × Value)} {E : Env} {R : Frag} {As As' : List Ent}

/-- Values of some operations (each by its number and its temporary), each with what is known of it. -/
def DepP (V : Nat → Frag → Value → Prop) (R : Frag) : List (Nat × Nat) → (List (Nat × Value) → Prop) → Prop
  | [], k => k []
  | (i, d) :: t, k => ∀ v, V i R v → DepP V R t fun L => k ((d, v) :: L)

theorem DepP.dep {V : Nat → Frag → Value → Prop} {R : Frag} : ∀ {ps : List (Nat × Nat)} {k : List (Nat × Value) → Prop}, (ps.all fun p => Nat.beq (dstOf ops p.1) p.2) = true → DepP V R ps k → Dep V ops R (ps.map (·.1)) k
  | [], _, _, h => h
  | (i, d) :: t, k, hp, h => fun v hv => by
    rw [List.all_cons, Bool.and_eq_true] at hp
    have he := Nat.eq_of_beq_eq_true hp.1
    have := DepP.dep hp.2 (h v hv)
    simp only at he
    rw [← he] at this
    exact this

def Hops (P : Program) (ops : Array Oper) (N : Nat) (F : List (Nat × Value)) (E : Env) (R : Frag) (As : List Ent) (V : Nat → Frag → Value → Prop) : List (Nat × List (Nat × Nat)) → List Oper → Prop
  | (j, ps) :: js, o :: t => (∀ R1 G, Frag.le R R1 → DepP V R1 ps fun L => HL P ops (DQ N E R1 As (dstOf ops j) (V j) (L ++ F ++ G)) N (L ++ F ++ G) E R1 As [o]) ∧ Hops P ops N F E R As V js t
  | [], [] => True
  | _, _ => False

theorem Hops.get {V} : ∀ {l : List Oper} {js : List (Nat × List (Nat × Nat))} {i : Nat}, Hops P ops N F E R As V js l → js.map (·.1) = List.range' i l.length → ∀ (j : Nat) (o : Oper), l[j]? = some o →
    ∃ ps, js[j]? = some (i + j, ps) ∧ ∀ R1 G, Frag.le R R1 → DepP V R1 ps fun L => HL P ops (DQ N E R1 As (dstOf ops (i + j)) (V (i + j)) (L ++ F ++ G)) N (L ++ F ++ G) E R1 As [o]
  | [], _, _, _, _, j, o, h => by simp at h
  | p :: t, [], i, hh, _, j, o, h => hh.elim
  | p :: t, (q, ps) :: js, i, hh, hr, j, o, h => by
    simp only [List.map_cons, List.length_cons, List.range'_succ, List.cons.injEq] at hr
    obtain ⟨rfl, hr⟩ := hr
    cases j with
    | zero =>
      simp at h
      subst h
      exact ⟨ps, rfl, hh.1⟩
    | succ j =>
      obtain ⟨ps', h1, h2⟩ := hh.2.get hr j o (by simpa using h)
      have e : q + 1 + j = q + (j + 1) := by omega
      rw [e] at h1 h2
      exact ⟨ps', by simpa using h1, h2⟩

theorem HC_drawP {id : Nat} {l : List Oper} (pre : List (Nat × Nat × Value)) (k n : Nat) (V : Nat → Frag → Value → Prop) (js : List (Nat × List (Nat × Nat))) (all : List (Nat × Nat)) {ds : List Nat} (hm : P.follows .mixedOrders = true)
    (hok : drawOk l.toArray (pre.map (·.1)) k n = true) (hk : Nat.ble k l.length = true) (hds : dsts (l.take k) = some ds) (hnd : ds.Nodup) (hF : (ds.all fun d => (lk F d).isNone) = true)
    (hjs : js.map (·.1) = List.range' 0 k) (hall : all.map (·.1) = List.range k) (halld : (all.all fun p => Nat.beq (dstOf l.toArray p.1) p.2) = true)
    (hdep : (js.all fun q => q.2.all fun p => Nat.blt p.1 k && Nat.beq (dstOf l.toArray p.1) p.2 && match l[q.1]? with | some o => o.after.toList.any fun e => Region.binds .any e && Nat.beq e.on p.1 | none => false) = true)
    (hprek : ((pre.map (·.1)).all fun i => Nat.blt i k) = true) (hsel : pre ≠ [] → Region.noSelect l.toArray = true) (hQ : ∀ c d v a w, Q (.panic c) (a.put d v) w → Q (.panic c) a w) (hpreR : PreR P l N F pre) (hpreOk : preOk l.toArray (Array.replicate l.length false) (pre.map (·.1)) = true) (hprend : (pre.map (·.1)).Nodup) (hpreV : ∀ p ∈ pre, ∀ R, V p.1 R p.2.2)
    (hmono : ∀ j R R' v, Frag.le R R' → V j R v → V j R' v)
    (hop : Hops P l.toArray N F E R As V js (l.take k))
    (htail : ∀ R1, Frag.le R R1 → DepP V R1 all fun L => HL P l.toArray Q N (L ++ F) E R1 As (l.drop k)) :
    HC P Q N F E R As (.region id l.toArray true) := by
  have hk' : k ≤ l.length := by simpa using hk
  have hlen : (l.take k).length = k := by simp; omega
  refine HC_draw pre k n V (fun j => ((js[j]?).map fun q => q.2.map (·.1)).getD []) hm hok hprek hsel hQ hpreR hpreOk hprend hpreV hk hds hnd hF ?_ hmono (fun j o hj hjk => ?_) (fun R1 hle => ?_)
  · rw [List.all_eq_true]
    intro j hj
    rw [List.all_eq_true]
    intro i hi
    have hjk : j < k := by simpa using hj
    cases hq : js[j]? with
    | none => rw [hq] at hi; simp at hi
    | some q =>
      rw [hq] at hi
      simp only [Option.map_some, Option.getD_some, List.mem_map] at hi
      obtain ⟨p, hp, rfl⟩ := hi
      have h1 := List.all_eq_true.1 (List.all_eq_true.1 hdep q (List.mem_of_getElem? hq)) p hp
      have hqj : q.1 = j := by
        have : (js.map (·.1))[j]? = some q.1 := by simp [hq]
        rw [hjs] at this
        rw [List.getElem?_range' hjk] at this
        simp at this
        omega
      rw [hqj, Bool.and_eq_true, Bool.and_eq_true] at h1
      rw [Bool.and_eq_true]
      refine ⟨h1.1.1, ?_⟩
      have h2 := h1.2
      cases hl : l[j]? with
      | none => rw [hl] at h2; cases h2
      | some o => rw [hl] at h2; simpa using h2
  · obtain ⟨ps, h1, h2⟩ := hop.get (i := 0) (by rw [hlen]; exact hjs) j o (by rw [List.getElem?_take, if_pos hjk]; exact hj)
    simp only [Nat.zero_add] at h1 h2
    intro R1 G hle
    rw [h1]
    simp only [Option.map_some, Option.getD_some]
    refine DepP.dep ?_ (h2 R1 G hle)
    rw [List.all_eq_true]
    intro p hp
    have := List.all_eq_true.1 (List.all_eq_true.1 hdep _ (List.mem_of_getElem? h1)) p hp
    rw [Bool.and_eq_true, Bool.and_eq_true] at this
    exact this.1.2
  · rw [← hall]
    exact DepP.dep halld (htail R1 hle)

theorem HC_drawH {id : Nat} {l : List Oper} (k n : Nat) (V : Nat → Frag → Value → Prop) (js : List (Nat × List (Nat × Nat))) (all : List (Nat × Nat)) {ds : List Nat} (hm : P.follows .mixedOrders = true)
    (hok : drawOk l.toArray [] k n = true) (hk : Nat.ble k l.length = true) (hds : dsts (l.take k) = some ds) (hnd : ds.Nodup) (hF : (ds.all fun d => (lk F d).isNone) = true)
    (hjs : js.map (·.1) = List.range' 0 k) (hall : all.map (·.1) = List.range k) (halld : (all.all fun p => Nat.beq (dstOf l.toArray p.1) p.2) = true)
    (hdep : (js.all fun q => q.2.all fun p => Nat.blt p.1 k && Nat.beq (dstOf l.toArray p.1) p.2 && match l[q.1]? with | some o => o.after.toList.any fun e => Region.binds .any e && Nat.beq e.on p.1 | none => false) = true) (hQ : ∀ c d v a w, Q (.panic c) (a.put d v) w → Q (.panic c) a w)
    (hmono : ∀ j R R' v, Frag.le R R' → V j R v → V j R' v)
    (hop : Hops P l.toArray N F E R As V js (l.take k))
    (htail : ∀ R1, Frag.le R R1 → DepP V R1 all fun L => HL P l.toArray Q N (L ++ F) E R1 As (l.drop k)) :
    HC P Q N F E R As (.region id l.toArray true) :=
  HC_drawP [] k n V js all hm hok hk hds hnd hF hjs hall halld hdep rfl (fun h => absurd rfl h) hQ (.nil _) rfl List.nodup_nil (fun _ h => by cases h) hmono hop htail

theorem PreR.move {l : List Oper} {j d : Nat} {x : Operand} {v : Value} {rest ty pos af} (ho : l[j]? = some ⟨some d, .move x, ty, pos, af, none⟩) (hd : Nat.blt d N = true) (hx : ev F x = some v) (h : PreR P l N ((d, v) :: F) rest) : PreR P l N F ((j, d, v) :: rest) :=
  .cons _ _ _ _ _ _ ho rfl rfl hd (fun a w ha => by simp [execOp, ha.eval hx]) h
theorem PreR.add {l : List Oper} {j d : Nat} {x y : Operand} {a b : Int} {T yT rest ty pos af} (ho : l[j]? = some ⟨some d, .binOp .add T x y yT, ty, pos, af, none⟩) (hd : Nat.blt d N = true) (hx : ev F x = some (.int .i64 a)) (hy : ev F y = some (.int .i64 b))
    (h1 : -9223372036854775808 ≤ a + b) (h2 : a + b ≤ 9223372036854775807) (h : PreR P l N ((d, .int .i64 (a + b)) :: F) rest) : PreR P l N F ((j, d, .int .i64 (a + b)) :: rest) :=
  .cons _ _ _ _ _ _ ho rfl rfl hd (fun q w ha => by simp [execOp, eqGuard, binOp, Op.intArith, ha.eval hx, ha.eval hy, IntWalk.i64_in _ ⟨h1, h2⟩]) h
theorem PreR.sub {l : List Oper} {j d : Nat} {x y : Operand} {a b : Int} {T yT rest ty pos af} (ho : l[j]? = some ⟨some d, .binOp .sub T x y yT, ty, pos, af, none⟩) (hd : Nat.blt d N = true) (hx : ev F x = some (.int .i64 a)) (hy : ev F y = some (.int .i64 b))
    (h1 : -9223372036854775808 ≤ a - b) (h2 : a - b ≤ 9223372036854775807) (h : PreR P l N ((d, .int .i64 (a - b)) :: F) rest) : PreR P l N F ((j, d, .int .i64 (a - b)) :: rest) :=
  .cons _ _ _ _ _ _ ho rfl rfl hd (fun q w ha => by simp [execOp, eqGuard, binOp, Op.intArith, ha.eval hx, ha.eval hy, IntWalk.i64_in _ ⟨h1, h2⟩]) h

theorem HQ_dq1 {R₀ : Frag} {d : Nat} {V : Frag → Value → Prop} {G : List (Nat × Value)} {v : Value} (hle : Frag.le R₀ R) (hv : V R v) (ht : Tail As As') :
    HQ (DQ N E R₀ As' d V G) N ((d, v) :: G) E R As .normal := fun _ _ ha hst => ⟨v, R, hle, hv, ha, hst.tail ht⟩
end

/-! ## Slices that stay -/

theorem cut_all (cs : List Value) : cut cs 0 cs.length = some cs := (cut_eq _ _ _ _).2 ⟨by omega, by simp⟩

/-- A slice whose elements stay: each element's cells. -/
def SlR (R : Frag) (sz : Nat) (v : Value) (es : List (List Value)) : Prop :=
  ∃ p cap, v = .slice p es.length cap ∧ (es ≠ [] → ∃ b off, p = some ⟨b, off, none⟩ ∧ ∀ i vs, es[i]? = some vs → RdR R b (off + i * sz) sz vs)

theorem SlR.mono {R R' : Frag} (hle : Frag.le R R') {sz v es} (h : SlR R sz v es) : SlR R' sz v es := by
  obtain ⟨p, cap, h1, h2⟩ := h
  refine ⟨p, cap, h1, fun hne => ?_⟩
  obtain ⟨b, off, h3, h4⟩ := h2 hne
  exact ⟨b, off, h3, fun i vs hi => (h4 i vs hi).mono hle⟩

theorem SlR.nil (R : Frag) (sz : Nat) (p : Option Addr) (cap : Nat) : SlR R sz (.slice p 0 cap) [] := ⟨p, cap, rfl, fun h => absurd rfl h⟩

theorem flatten_cut (sz : Nat) : ∀ (es : List (List Value)) (rest : List Value), (∀ c ∈ es, c.length = sz) → ∀ i vs, es[i]? = some vs → cut (es.flatten ++ rest) (i * sz) sz = some vs := by
  intro es
  induction es with
  | nil => intro rest _ i vs h; simp at h
  | cons c t ih =>
    intro rest hl i vs h
    have hc := hl c (by simp)
    rw [cut_eq]
    cases i with
    | zero =>
      simp only [List.getElem?_cons_zero, Option.some.injEq] at h
      subst h
      simp [← hc]
    | succ i =>
      have := ih rest (fun c hc => hl c (by simp [hc])) i vs (by simpa using h)
      rw [cut_eq] at this
      simp only [List.flatten_cons, List.append_assoc, List.length_append] at this ⊢
      obtain ⟨h1, h2⟩ := this
      have e : (i + 1) * sz = sz + i * sz := by rw [Nat.add_mul]; omega
      rw [e]
      refine ⟨by omega, ?_⟩
      rw [← hc, ← List.drop_drop, List.drop_left, hc]
      exact h2

theorem SlR.of_block {R : Frag} {b cap te : Nat} {fr : Nat × Nat} {es : List (List Value)} {rest : List Value} {sz : Nat} (hb : R b = some (.cells ⟨es.flatten ++ rest⟩ te fr)) (hl : ∀ c ∈ es, c.length = sz) :
    SlR R sz (.slice (some ⟨b, 0, none⟩) es.length cap) es :=
  ⟨_, cap, rfl, fun _ => ⟨b, 0, rfl, fun i vs hi => ⟨_, _, _, hb, by rw [Nat.zero_add]; exact flatten_cut sz es rest hl i vs hi⟩⟩⟩

/-- What the call owns is laid down: it stays as it is from here on. -/
theorem OwnS.sealUp {te sz : Nat} {v : Value} {n : Nat} {es : List (List Value)} {e : Ent} (h : OwnS te sz v n es.flatten e) (hn : n = es.length) (hl : ∀ c ∈ es, c.length = sz) {E : Env} {w : World} {R : Frag} {As As' : List Ent}
    (hs : St E w R As) (ho : Out As e As') : ∃ R', Frag.le R R' ∧ SlR R' sz v es ∧ St E w R' As' := by
  subst hn
  rcases h.2 with ⟨rfl, h2, rfl⟩ | ⟨g, cap, cur, rfl, rfl, h3, h4, h5, h6⟩
  · have : es = [] := List.eq_nil_of_length_eq_zero h2
    subst this
    exact ⟨R, Frag.le_refl R, SlR.nil R sz none 0, hs.drop ho⟩
  · obtain ⟨R', h7, h8, h9⟩ := hs.sealUp ho
    refine ⟨R', h7, ?_, h9⟩
    have hcur : cur = es.flatten ++ cur.drop (es.length * sz) := by
      rw [← h6, List.take_append_drop]
    rw [hcur] at h8
    exact SlR.of_block h8 hl

section
variable {P : Program} {ops : Array Oper} {Q : Exit → Act → World → Prop} {N : Nat} {F : List (Nat × Value)} {E : Env} {R : Frag} {As As' : List Ent}
theorem HC_sealS {c te sz v n es e} (ho : Out As e As') (h : OwnS te sz v n es.flatten e) (hn : n = es.length) (hl : ∀ c ∈ es, c.length = sz) (k : ∀ R', Frag.le R R' → SlR R' sz v es → HC P Q N F E R' As' c) : HC P Q N F E R As c := fun a w ha hs => by
  obtain ⟨R', h1, h2, h3⟩ := h.sealUp hn hl hs ho
  exact k R' h1 h2 a w ha h3
theorem HL_sealS {l te sz v n es e} (ho : Out As e As') (h : OwnS te sz v n es.flatten e) (hn : n = es.length) (hl : ∀ c ∈ es, c.length = sz) (k : ∀ R', Frag.le R R' → SlR R' sz v es → HL P ops Q N F E R' As' l) : HL P ops Q N F E R As l := fun a w ha hs => by
  obtain ⟨R', h1, h2, h3⟩ := h.sealUp hn hl hs ho
  exact k R' h1 h2 a w ha h3
theorem HQ_sealS {x te sz v n es e} (ho : Out As e As') (h : OwnS te sz v n es.flatten e) (hn : n = es.length) (hl : ∀ c ∈ es, c.length = sz) (k : ∀ R', Frag.le R R' → SlR R' sz v es → HQ Q N F E R' As' x) : HQ Q N F E R As x := fun a w ha hs => by
  obtain ⟨R', h1, h2, h3⟩ := h.sealUp hn hl hs ho
  exact k R' h1 h2 a w ha h3
end

/-! ## Values of attributes as trees -/

inductive V where
  | mk (kind num : Int) (text : ByteArray) (nums : List Int) (texts : List ByteArray) (kids : List V) (pairs : List (ByteArray × V))

abbrev Pr := ByteArray × V

def numCells (l : List Int) : List (List Value) := l.map fun n => [.int .u64 n]
def txtCells (l : List ByteArray) : List (List Value) := l.map fun t => [.string t]
def prCells (ps : List Pr) (es : List (List Value)) : List (List Value) := List.zipWith (fun p e => Value.string p.1 :: e) ps es

/-- How a value of the reference's or of the thin package's type reads: seven cells. -/
inductive RepV (R : Frag) : V → List Value → Prop
  | mk {k n t nums texts kids pairs s1 s2 s3 s4 es ps} : SlR R 1 s1 (numCells nums) → SlR R 1 s2 (txtCells texts) →
      SlR R 7 s3 es → es.length = kids.length → (∀ (i : Nat) e v, es[i]? = some e → kids[i]? = some v → RepV R v e) →
      SlR R 8 s4 (prCells pairs ps) → ps.length = pairs.length → (∀ (i : Nat) e p, ps[i]? = some e → pairs[i]? = some p → RepV R p.2 e) →
      RepV R (.mk k n t nums texts kids pairs) [.int .u8 k, .int .u64 n, .string t, s1, s2, s3, s4]

theorem RepV.mono {R R' : Frag} (hle : Frag.le R R') {v cs} (h : RepV R v cs) : RepV R' v cs := by
  induction h with
  | mk h1 h2 h3 h4 _ h6 h7 _ ih5 ih8 => exact .mk (h1.mono hle) (h2.mono hle) (h3.mono hle) h4 ih5 (h6.mono hle) h7 ih8

theorem RepV.len {R : Frag} {v cs} (h : RepV R v cs) : cs.length = 7 := by cases h; rfl
theorem RepV.onesT {R : Frag} {v cs} (h : RepV R v cs) : ones cs = true := by
  cases h with
  | mk h1 h2 h3 _ _ h6 _ _ =>
    obtain ⟨_, _, rfl, _⟩ := h1
    obtain ⟨_, _, rfl, _⟩ := h2
    obtain ⟨_, _, rfl, _⟩ := h3
    obtain ⟨_, _, rfl, _⟩ := h6
    rfl

/-- A list of values; a list of attributes: as slices that stay. -/
def RepL (R : Frag) (v : Value) (kids : List V) : Prop := ∃ es, SlR R 7 v es ∧ es.length = kids.length ∧ ∀ (i : Nat) e u, es[i]? = some e → kids[i]? = some u → RepV R u e
def RepP (R : Frag) (v : Value) (pairs : List Pr) : Prop := ∃ ps, SlR R 8 v (prCells pairs ps) ∧ ps.length = pairs.length ∧ ∀ (i : Nat) e p, ps[i]? = some e → pairs[i]? = some p → RepV R p.2 e

theorem RepL.mono {R R' : Frag} (hle : Frag.le R R') {v l} (h : RepL R v l) : RepL R' v l := by
  obtain ⟨es, h1, h2, h3⟩ := h
  exact ⟨es, h1.mono hle, h2, fun i e u a b => (h3 i e u a b).mono hle⟩
theorem RepP.mono {R R' : Frag} (hle : Frag.le R R') {v l} (h : RepP R v l) : RepP R' v l := by
  obtain ⟨es, h1, h2, h3⟩ := h
  exact ⟨es, h1.mono hle, h2, fun i e u a b => (h3 i e u a b).mono hle⟩

theorem RepV.parts {R : Frag} {k n t nums texts kids pairs cs} (h : RepV R (.mk k n t nums texts kids pairs) cs) :
    ∃ s1 s2 s3 s4, cs = [.int .u8 k, .int .u64 n, .string t, s1, s2, s3, s4] ∧ SlR R 1 s1 (numCells nums) ∧ SlR R 1 s2 (txtCells texts) ∧ RepL R s3 kids ∧ RepP R s4 pairs := by
  cases h with
  | mk h1 h2 h3 h4 h5 h6 h7 h8 => exact ⟨_, _, _, _, rfl, h1, h2, ⟨_, h3, h4, h5⟩, ⟨_, h6, h7, h8⟩⟩
theorem RepV.of {R : Frag} {k n t nums texts kids pairs s1 s2 s3 s4} (h1 : SlR R 1 s1 (numCells nums)) (h2 : SlR R 1 s2 (txtCells texts)) (h3 : RepL R s3 kids) (h4 : RepP R s4 pairs) :
    RepV R (.mk k n t nums texts kids pairs) [.int .u8 k, .int .u64 n, .string t, s1, s2, s3, s4] := by
  obtain ⟨es, a1, a2, a3⟩ := h3
  obtain ⟨ps, b1, b2, b3⟩ := h4
  exact .mk h1 h2 a1 a2 a3 b1 b2 b3

theorem prCells_get {ps : List Pr} {es : List (List Value)} {i : Nat} {p : Pr} {e : List Value} (h1 : ps[i]? = some p) (h2 : es[i]? = some e) : (prCells ps es)[i]? = some (.string p.1 :: e) := by
  simp [prCells, List.getElem?_zipWith, h1, h2]
theorem prCells_length {ps : List Pr} {es : List (List Value)} (h : es.length = ps.length) : (prCells ps es).length = ps.length := by simp [prCells, h]

theorem RepL.slice {R : Frag} {v l} (h : RepL R v l) : ∃ p cap, v = .slice p l.length cap := by
  obtain ⟨es, ⟨p, cap, h1, _⟩, h2, _⟩ := h
  exact ⟨p, cap, by rw [h1, h2]⟩
theorem RepP.slice {R : Frag} {v l} (h : RepP R v l) : ∃ p cap, v = .slice p l.length cap := by
  obtain ⟨es, ⟨p, cap, h1, _⟩, h2, _⟩ := h
  exact ⟨p, cap, by rw [h1, prCells_length h2]⟩
/-- An element of such a list. -/
theorem RepL.get {R : Frag} {p cap n l} (h : RepL R (.slice p n cap) l) {i : Nat} (hi : i < l.length) : ∃ b off e, p = some ⟨b, off, none⟩ ∧ RdR R b (off + i * 7) 7 e ∧ RepV R l[i] e := by
  obtain ⟨es, ⟨p', cap', h1, h2⟩, h3, h4⟩ := h
  injection h1 with h1 _ _
  subst h1
  obtain ⟨b, off, h5, h6⟩ := h2 (fun e => by rw [e] at h3; simp at h3; omega)
  have hie : i < es.length := by omega
  exact ⟨b, off, es[i], h5, h6 i _ (by simp [hie]), h4 i _ _ (by simp [hie]) (by simp [hi])⟩
theorem RepP.get {R : Frag} {p cap n l} (h : RepP R (.slice p n cap) l) {i : Nat} (hi : i < l.length) : ∃ b off e, p = some ⟨b, off, none⟩ ∧ RdR R b (off + i * 8) 8 (.string l[i].1 :: e) ∧ RepV R l[i].2 e := by
  obtain ⟨es, ⟨p', cap', h1, h2⟩, h3, h4⟩ := h
  injection h1 with h1 _ _
  subst h1
  obtain ⟨b, off, h5, h6⟩ := h2 (fun e => by
    have := prCells_length h3
    rw [e] at this; simp at this; omega)
  have hie : i < es.length := by omega
  exact ⟨b, off, es[i], h5, h6 i _ (prCells_get (by simp [hi]) (by simp [hie])), h4 i _ _ (by simp [hie]) (by simp [hi])⟩

theorem RepV.seven {R : Frag} {v : V} {e : List Value} (h : RepV R v e) : ∃ c0 c1 c2 c3 c4 c5 c6, e = [c0, c1, c2, c3, c4, c5, c6] ∧ ones [c0, c1, c2, c3, c4, c5, c6] = true := by
  have ho := h.onesT
  cases h with
  | mk => exact ⟨_, _, _, _, _, _, _, rfl, ho⟩

section
variable {P : Program} {ops : Array Oper} {Q : Exit → Act → World → Prop} {N : Nat} {F : List (Nat × Value)} {E : Env} {R : Frag} {As As' : List Ent}
theorem St.emp {w : World} (h : St E w R As) : St E w R (.emp :: As) :=
  ⟨h.os, h.tape, h.output, h.sees, fun b o hb => h.own b o (by simpa using hb), fun b o hb => h.apart b o (by simpa using hb), by simpa [List.filterMap_cons, Ent.id] using h.nodup⟩
theorem HC_emp {c} (h : HC P Q N F E R (.emp :: As) c) : HC P Q N F E R As c := fun a w ha hs => h a w ha hs.emp
theorem HL_emp {l} (h : HL P ops Q N F E R (.emp :: As) l) : HL P ops Q N F E R As l := fun a w ha hs => h a w ha hs.emp
end

/-- One more chunk behind the others. -/
theorem OwnS.snoc {te sz : Nat} {v : Value} {n : Nat} {cs : List (List Value)} {c : List Value} {e : Ent} (h : OwnS te sz v (n + 1) (cs.flatten ++ c) e) : OwnS te sz v (n + 1) (cs ++ [c]).flatten e := by
  simpa using h
theorem prCells_snoc {ps : List Pr} {es : List (List Value)} {i : Nat} {p : Pr} {c : List Value} (hp : ps[i]? = some p) (hes : es.length = i) :
    prCells (ps.take (i + 1)) (es ++ [c]) = prCells (ps.take i) es ++ [.string p.1 :: c] := by
  have hlt : i < ps.length := (List.getElem?_eq_some_iff.1 hp).1
  rw [List.take_add_one, hp]
  unfold prCells
  rw [List.zipWith_append (by simp; omega)]
  rfl
theorem getElem?_snoc {α : Type} {l : List α} {a x : α} {i j : Nat} (hl : l.length = i) (h : (l ++ [a])[j]? = some x) : (j < i ∧ l[j]? = some x) ∨ (j = i ∧ x = a) := by
  rcases Nat.lt_trichotomy j i with hj | hj | hj
  · rw [List.getElem?_append_left (by omega)] at h
    exact .inl ⟨hj, h⟩
  · subst hj
    rw [List.getElem?_append_right (by omega)] at h
    simp [hl] at h
    exact .inr ⟨rfl, h.symm⟩
  · rw [List.getElem?_eq_none (by simp; omega)] at h
    cases h
theorem prCells_len {R : Frag} {ps : List Pr} {es : List (List Value)} (hl : es.length = ps.length) (h : ∀ (j : Nat) c q, es[j]? = some c → ps[j]? = some q → RepV R q.2 c) : ∀ c ∈ prCells ps es, c.length = 8 := by
  intro c hc
  obtain ⟨j, hj, hjc⟩ := List.getElem_of_mem hc
  have hlen := prCells_length hl
  have hj1 : j < ps.length := by omega
  have hj2 : j < es.length := by omega
  have h1 := prCells_get (ps := ps) (es := es) (i := j) (p := ps[j]) (e := es[j]) (List.getElem?_eq_getElem hj1) (List.getElem?_eq_getElem hj2)
  rw [List.getElem?_eq_getElem hj, hjc] at h1
  injection h1 with h1
  rw [h1, List.length_cons, (h j _ _ (List.getElem?_eq_getElem hj2) (List.getElem?_eq_getElem hj1)).len]
theorem rep_len {R : Frag} {ks : List V} {es : List (List Value)} (hl : es.length = ks.length) (h : ∀ (j : Nat) c q, es[j]? = some c → ks[j]? = some q → RepV R q c) : ∀ c ∈ es, c.length = 7 := by
  intro c hc
  obtain ⟨j, hj, hjc⟩ := List.getElem_of_mem hc
  have hj1 : j < ks.length := by omega
  exact (h j c ks[j] (by rw [List.getElem?_eq_getElem hj, hjc]) (List.getElem?_eq_getElem hj1)).len
theorem OwnS.one {te sz : Nat} {v : Value} {n : Nat} {xs : List Value} {e : Ent} (h : OwnS te sz v n xs e) : Sx.ones [v] = true := by
  rcases h.2 with ⟨rfl, _⟩ | ⟨g, cap, cur, rfl, _⟩ <;> rfl
theorem OwnS.cells {te sz : Nat} {v : Value} {n : Nat} {xs : List Value} {e : Ent} (h : OwnS te sz v n xs e) : v.cells = [v].toArray := by
  rcases h.2 with ⟨rfl, _⟩ | ⟨g, cap, cur, rfl, _⟩ <;> rfl
theorem SlR.at {R : Frag} {sz : Nat} {p : Option Addr} {n cap : Nat} {es : List (List Value)} (h : SlR R sz (.slice p n cap) es) {i : Nat} (hi : i < es.length) : ∃ b off, p = some ⟨b, off, none⟩ ∧ RdR R b (off + i * sz) sz es[i] := by
  obtain ⟨p', cap', h1, h2⟩ := h
  injection h1 with h1 _ _
  subst h1
  obtain ⟨b, off, h3, h4⟩ := h2 (fun e => by rw [e] at hi; simp at hi)
  exact ⟨b, off, h3, h4 i _ (List.getElem?_eq_getElem hi)⟩
theorem maxLen_big (n : Nat) (h : n ≤ 1000000000000) : n ≤ maxLen := by unfold maxLen; omega

/-- A value as the reference's guard lets it in: small, and no parts but those of its kind. -/
inductive Ok : V → Prop
  | mk {k n t nums texts kids pairs} : (0 ≤ k ∧ k ≤ 11) → (0 ≤ n ∧ n ≤ 18446744073709551615) → t.size ≤ 1000 → nums.length ≤ 100 → (∀ x ∈ nums, 0 ≤ x ∧ x ≤ 18446744073709551615) →
      texts.length ≤ 100 → (∀ s ∈ texts, s.size ≤ 1000) → kids.length ≤ 100 → pairs.length ≤ 100 → (∀ v ∈ kids, Ok v) → (∀ p ∈ pairs, p.1.size ≤ 200) → (∀ p ∈ pairs, Ok p.2) →
      ((k = 1 ∨ k = 2 ∨ k = 3) ∨ n = 0) → ((k = 4 ∨ k = 9) ∨ t.size = 0) → ((k = 5 ∨ k = 6 ∨ k = 7) ∨ nums = []) → (k = 8 ∨ texts = []) → (k = 10 ∨ kids = []) → (k = 11 ∨ pairs = []) →
      (k = 1 → n ≤ 1) → (k = 5 → ∀ x ∈ nums, x ≤ 1) → Ok (.mk k n t nums texts kids pairs)

/-- Attributes as the guard lets them in. -/
def OkP (ps : List Pr) : Prop := ps.length ≤ 100 ∧ ∀ p ∈ ps, p.1.size ≤ 200 ∧ Ok p.2
/-- Steps that are found by the shape of the operation. -/
theorem rf {α : Sort _} {a b : α} (h : a = b := by rfl) : a = b := h
theorem rdd {As : List Ent} {R : Frag} {b off n : Nat} {vs : List Value} (h : Rd As R b off n vs := by first | exact Rd.own (by repeat (first | exact Mem.here | apply Mem.there)) (by rfl) | exact RdR.rd (by assumption)) : Rd As R b off n vs := h
theorem mmm {l : List Ent} {e : Ent} (h : Mem l e := by repeat (first | exact Mem.here | apply Mem.there)) : Mem l e := h
theorem sss {l l' : List Ent} {e e' : Ent} (h : Sel l e e' l' := by repeat (first | exact Sel.here | apply Sel.there)) : Sel l e e' l' := h
theorem ttt {l l' : List Ent} (h : Tail l l' := by repeat (first | exact Tail.refl | apply Tail.cons)) : Tail l l' := h
theorem ooo {l l' : List Ent} {e : Ent} (h : Out l e l' := by repeat (first | exact Out.here | apply Out.there)) : Out l e l' := h
theorem dq0 {N : Nat} {E : Env} {R : Frag} {As : List Ent} {d : Nat} {V : Frag → Value → Prop} {G : List (Nat × Value)} {v : Value} (hv : V R v) : HQ (DQ N E R As d V G) N ((d, v) :: G) E R As .normal := HQ_dq1 (Frag.le_refl _) hv .refl
theorem hqr {P : Program} {N : Nat} {F : List (Nat × Value)} {E : Env} {R : Frag} {As : List Ent} {fn : Func} {Rp : Ending → World → Prop} {t : Nat} {v : Value} (hres : fn.results = #[.tmp t]) (ht : lk F t = some v) (h : ∀ w, St E w R As → Rp (.returned v) w) : HQ (bodyPost P fn Rp) N F E R As .ret := HQ_ret (.inl rfl) v (fun a w ha _ => run_results_tmp hres ht a w ha) h
theorem sqm {p q : Prop} (k : q) (h : q → p := by (intro k; (first | (refine HL_guard_no (by rfl) (by rfl) (by rfl) (by rfl) ?_) | (refine HL_guard_yes (by rfl) (by rfl) ?_; refine HL_move (by rfl) (by rfl) ?_)); exact k)) : p := h k
theorem sq1 {p q : Prop} (k : q) (h : q → p := by (intro k; (first | with_reducible refine HL_nil ?_ | with_reducible refine HL_move (by with_unfolding_all rfl) (by with_unfolding_all rfl) ?_ | with_reducible refine HQ_then ?_ | with_reducible refine HC_region ?_ | with_reducible refine HC_seq ?_ | with_reducible refine HL_assign (by with_unfolding_all rfl) (by with_unfolding_all rfl) ?_ | with_reducible refine HL_guard_no (by with_unfolding_all rfl) (by with_unfolding_all rfl) (by with_unfolding_all rfl) (by with_unfolding_all rfl) ?_ | with_reducible refine HL_guard_yes (by with_unfolding_all rfl) (by with_unfolding_all rfl) ?_ | with_reducible refine HL_extract (by with_unfolding_all rfl) (by with_unfolding_all rfl) (by with_unfolding_all rfl) ?_ | with_reducible refine HL_pick (by with_unfolding_all rfl) (by with_unfolding_all rfl) (by with_unfolding_all rfl) ?_ | with_reducible refine HC_skip ?_ | with_reducible refine HC_block ?_ | with_reducible refine HC_ret ?_ | with_reducible refine HQ_then_exit ?_ | with_reducible refine HL_nilCheck (by with_unfolding_all rfl) (by with_unfolding_all rfl) ?_ | with_reducible refine HL_not (by with_unfolding_all rfl) (by with_unfolding_all rfl) ?_ | with_reducible refine HL_lss (by with_unfolding_all rfl) (by with_unfolding_all rfl) (by with_unfolding_all rfl) ?_ | with_reducible refine HL_gtr (by with_unfolding_all rfl) (by with_unfolding_all rfl) (by with_unfolding_all rfl) ?_ | with_reducible refine HL_leq (by with_unfolding_all rfl) (by with_unfolding_all rfl) (by with_unfolding_all rfl) ?_ | with_reducible refine HL_geq (by with_unfolding_all rfl) (by with_unfolding_all rfl) (by with_unfolding_all rfl) ?_ | with_reducible refine HL_eql_int (by with_unfolding_all rfl) (by with_unfolding_all rfl) (by with_unfolding_all rfl) ?_ | ((with_reducible show HL _ _ _ _ _ _ _ _ _); first | refine HL_nil ?_ | refine HL_move (by rfl) (by rfl) ?_ | refine HL_assign (by rfl) (by rfl) ?_ | refine HL_guard_no (by rfl) (by rfl) (by rfl) (by rfl) ?_ | refine HL_guard_yes (by rfl) (by rfl) ?_ | refine HL_extract (by rfl) (by rfl) (by rfl) ?_ | refine HL_pick (by rfl) (by rfl) (by rfl) ?_ | refine HL_nilCheck (by rfl) (by rfl) ?_ | refine HL_not (by rfl) (by rfl) ?_ | refine HL_lss (by rfl) (by rfl) (by rfl) ?_ | refine HL_gtr (by rfl) (by rfl) (by rfl) ?_ | refine HL_leq (by rfl) (by rfl) (by rfl) ?_ | refine HL_geq (by rfl) (by rfl) (by rfl) ?_ | refine HL_eql_int (by rfl) (by rfl) (by rfl) ?_)); exact k)) : p := h k
theorem sq2 {p q : Prop} (k : q) (h : q → p := by (intro k; (iterate 2 (refine sq1 ?_)); exact k)) : p := h k
theorem sq3 {p q : Prop} (k : q) (h : q → p := by (intro k; (iterate 3 (refine sq1 ?_)); exact k)) : p := h k
theorem sq4 {p q : Prop} (k : q) (h : q → p := by (intro k; (iterate 4 (refine sq1 ?_)); exact k)) : p := h k
theorem sq5 {p q : Prop} (k : q) (h : q → p := by (intro k; (iterate 5 (refine sq1 ?_)); exact k)) : p := h k
theorem sq6 {p q : Prop} (k : q) (h : q → p := by (intro k; (iterate 6 (refine sq1 ?_)); exact k)) : p := h k
theorem sq7 {p q : Prop} (k : q) (h : q → p := by (intro k; (iterate 7 (refine sq1 ?_)); exact k)) : p := h k
theorem sq8 {p q : Prop} (k : q) (h : q → p := by (intro k; (iterate 8 (refine sq1 ?_)); exact k)) : p := h k
theorem sq9 {p q : Prop} (k : q) (h : q → p := by (intro k; (iterate 9 (refine sq1 ?_)); exact k)) : p := h k
theorem sq10 {p q : Prop} (k : q) (h : q → p := by (intro k; (iterate 10 (refine sq1 ?_)); exact k)) : p := h k
theorem sq11 {p q : Prop} (k : q) (h : q → p := by (intro k; (iterate 11 (refine sq1 ?_)); exact k)) : p := h k
theorem sq12 {p q : Prop} (k : q) (h : q → p := by (intro k; (iterate 12 (refine sq1 ?_)); exact k)) : p := h k
theorem sq13 {p q : Prop} (k : q) (h : q → p := by (intro k; (iterate 13 (refine sq1 ?_)); exact k)) : p := h k
theorem sq14 {p q : Prop} (k : q) (h : q → p := by (intro k; (iterate 14 (refine sq1 ?_)); exact k)) : p := h k
theorem sq15 {p q : Prop} (k : q) (h : q → p := by (intro k; (iterate 15 (refine sq1 ?_)); exact k)) : p := h k
theorem sq16 {p q : Prop} (k : q) (h : q → p := by (intro k; (iterate 16 (refine sq1 ?_)); exact k)) : p := h k
theorem hqr1 {Q : Exit → Act → World → Prop} {N : Nat} {F : List (Nat × Value)} {E : Env} {R : Frag} {As : List Ent} {Inv : List (Nat × Value) → Frag → List Ent → Nat → Prop} {m : Nat} {F₀ : List (Nat × Value)} (m₀ : Nat) (h₀ : Inv F₀ R As m₀) (hsub : Sub F F₀ := by (repeat (first | exact trivial | refine ⟨rfl, ?_⟩))) (hlt : m₀ < m := by omega) : HQ (Exit.then (LI Inv N E m) Q) N F E R As .normal := HQ_loop F₀ As m₀ hlt hsub (.refl _) h₀
theorem hqc1 {Q : Exit → Act → World → Prop} {N : Nat} {F : List (Nat × Value)} {E : Env} {R : Frag} {As : List Ent} {Mid : List (Nat × Value) → Frag → List Ent → Prop} {F₀ : List (Nat × Value)} (h₀ : Mid F₀ R As) (hsub : Sub F F₀ := by (repeat (first | exact trivial | refine ⟨rfl, ?_⟩))) : HQ (Exit.then (MidK Mid N E) Q) N F E R As .normal := HQ_cut F₀ As hsub (.refl _) h₀
theorem hql {Q : Exit → Act → World → Prop} {N : Nat} {F : List (Nat × Value)} {E : Env} {R : Frag} {As : List Ent} {Inv : List (Nat × Value) → Frag → List Ent → Nat → Prop} {m : Nat} {F₀ : List (Nat × Value)} (As₀ : List Ent) (m₀ : Nat) (h₀ : Inv F₀ R As₀ m₀) (hsub : Sub F F₀ := by (repeat (first | exact trivial | refine ⟨rfl, ?_⟩))) (hlt : m₀ < m := by omega) (hperm : As.Perm As₀ := by exact .refl _) : HQ (Exit.then (LI Inv N E m) Q) N F E R As .normal := HQ_loop F₀ As₀ m₀ hlt hsub hperm h₀
theorem hqc {Q : Exit → Act → World → Prop} {N : Nat} {F : List (Nat × Value)} {E : Env} {R : Frag} {As : List Ent} {Mid : List (Nat × Value) → Frag → List Ent → Prop} {F₀ : List (Nat × Value)} (As₀ : List Ent) (h₀ : Mid F₀ R As₀) (hsub : Sub F F₀ := by (repeat (first | exact trivial | refine ⟨rfl, ?_⟩))) (hperm : As.Perm As₀ := by exact .refl _) : HQ (Exit.then (MidK Mid N E) Q) N F E R As .normal := HQ_cut F₀ As₀ hsub hperm h₀
theorem hcl {P : Program} {Q : Exit → Act → World → Prop} {N : Nat} {F : List (Nat × Value)} {E : Env} {R : Frag} {As : List Ent} {body : Code} (Inv : List (Nat × Value) → Frag → List Ent → Nat → Prop) {F₀ : List (Nat × Value)} (As₀ : List Ent) (m₀ : Nat) (h₀ : Inv F₀ R As₀ m₀) (round : ∀ F R As m, Inv F R As m → HC P (Exit.then (LI Inv N E m) Q) N F E R As body) (hsub : Sub F F₀ := by (repeat (first | exact trivial | refine ⟨rfl, ?_⟩))) (hperm : As.Perm As₀ := by exact .refl _) : HC P Q N F E R As (.loop body) := HC_loop Inv F₀ As₀ m₀ hsub hperm h₀ round
theorem dqn {P : Program} {ops : Array Oper} {N : Nat} {E : Env} {R : Frag} {As : List Ent} {d : Nat} {V : Frag → Value → Prop} {G : List (Nat × Value)} {v : Value} (hv : V R v := by exact rfl) : HL P ops (DQ N E R As d V G) N ((d, v) :: G) E R As [] := HL_nil (dq0 hv)
theorem dm {p : Prop} (h : p := by (intro R1 G hle; (repeat (rintro _ rfl)); (first | refine HL_move (by rfl) (by rfl) ?_ | refine HL_nilCheck (by rfl) (by rfl) ?_); refine HL_nil ?_; exact HQ_dq1 (Frag.le_refl _) rfl .refl)) : p := h
theorem ten {P : Program} {N : Nat} {f : FuncId} {fn : Func} {c : Code} {vs : List Value} {E : Env} {R : Frag} {As : List Ent} {Post : Value → Frag → List Ent → Prop} (hf : P.funcs[f]? = some fn) (h : HC P (bodyPost P fn fun e w' => ∃ v R' As', e = .returned v ∧ St E w' R' As' ∧ Post v R' As') N (frame0 vs) E R As c) (hb : fn.body = some c := by rfl) (hN : fn.ntmps = N := by rfl) (hlen : Nat.ble vs.length N = true := by rfl) : Tri P f vs E R As Post := Tri_enter hf hb hN hlen R As h
theorem hdh {P : Program} {Q : Exit → Act → World → Prop} {N : Nat} {F : List (Nat × Value)} {E : Env} {R : Frag} {As : List Ent} {id : Nat} {l : List Oper} (k n : Nat) (V : Nat → Frag → Value → Prop) (js : List (Nat × List (Nat × Nat))) (all : List (Nat × Nat)) {ds : List Nat} (hmono : ∀ j R R' v, Frag.le R R' → V j R v → V j R' v) (hop : Hops P l.toArray N F E R As V js (l.take k)) (htail : ∀ R1, Frag.le R R1 → DepP V R1 all fun L => HL P l.toArray Q N (L ++ F) E R1 As (l.drop k)) (hds : dsts (l.take k) = some ds := by rfl) (hm : P.follows .mixedOrders = true := by kernel_rfl) (hok : drawOk l.toArray [] k n = true := by kernel_rfl) (hk : Nat.ble k l.length = true := by kernel_rfl) (hnd : ds.Nodup := by decide) (hF : (ds.all fun d => (lk F d).isNone) = true := by rfl) (hjs : js.map (·.1) = List.range' 0 k := by kernel_rfl) (hall : all.map (·.1) = List.range k := by kernel_rfl) (halld : (all.all fun p => Nat.beq (dstOf l.toArray p.1) p.2) = true := by kernel_rfl) (hdep : (js.all fun q => q.2.all fun p => Nat.blt p.1 k && Nat.beq (dstOf l.toArray p.1) p.2 && match l[q.1]? with | some o => o.after.toList.any fun e => Region.binds .any e && Nat.beq e.on p.1 | none => false) = true := by kernel_rfl) (hQ : ∀ c d v a w, Q (.panic c) (a.put d v) w → Q (.panic c) a w := by (intro c d v a w h; cases d <;> exact h)) : HC P Q N F E R As (.region id l.toArray true) := HC_drawH k n V js all hm hok hk hds hnd hF hjs hall halld hdep hQ hmono hop htail
theorem hdp {P : Program} {Q : Exit → Act → World → Prop} {N : Nat} {F : List (Nat × Value)} {E : Env} {R : Frag} {As : List Ent} {id : Nat} {l : List Oper} (pre : List (Nat × Nat × Value)) (k n : Nat) (V : Nat → Frag → Value → Prop) (js : List (Nat × List (Nat × Nat))) (all : List (Nat × Nat)) (hpreR : PreR P l N F pre) {ds : List Nat} (hmono : ∀ j R R' v, Frag.le R R' → V j R v → V j R' v) (hop : Hops P l.toArray N F E R As V js (l.take k)) (htail : ∀ R1, Frag.le R R1 → DepP V R1 all fun L => HL P l.toArray Q N (L ++ F) E R1 As (l.drop k)) (hds : dsts (l.take k) = some ds := by rfl) (hm : P.follows .mixedOrders = true := by kernel_rfl) (hok : drawOk l.toArray (pre.map (·.1)) k n = true := by kernel_rfl) (hk : Nat.ble k l.length = true := by kernel_rfl) (hnd : ds.Nodup := by decide) (hF : (ds.all fun d => (lk F d).isNone) = true := by rfl) (hjs : js.map (·.1) = List.range' 0 k := by kernel_rfl) (hall : all.map (·.1) = List.range k := by kernel_rfl) (halld : (all.all fun p => Nat.beq (dstOf l.toArray p.1) p.2) = true := by kernel_rfl) (hdep : (js.all fun q => q.2.all fun p => Nat.blt p.1 k && Nat.beq (dstOf l.toArray p.1) p.2 && match l[q.1]? with | some o => o.after.toList.any fun e => Region.binds .any e && Nat.beq e.on p.1 | none => false) = true := by kernel_rfl) (hprek : ((pre.map (·.1)).all fun i => Nat.blt i k) = true := by rfl) (hsel : pre ≠ [] → Region.noSelect l.toArray = true := by (intro _; kernel_rfl)) (hQ : ∀ c d v a w, Q (.panic c) (a.put d v) w → Q (.panic c) a w := by (intro c d v a w h; cases d <;> exact h)) (hpreOk : preOk l.toArray (Array.replicate l.length false) (pre.map (·.1)) = true := by kernel_rfl) (hprend : (pre.map (·.1)).Nodup := by simp) (hpreV : ∀ p ∈ pre, ∀ R, V p.1 R p.2.2 := by (intro p hp; simp only [List.mem_cons, List.not_mem_nil, or_false] at hp; (first | (rcases hp with rfl; exact fun _ => rfl) | (rcases hp with rfl | rfl <;> exact fun _ => rfl) | (rcases hp with rfl | rfl | rfl <;> exact fun _ => rfl) | (rcases hp with rfl | rfl | rfl | rfl <;> exact fun _ => rfl)))) : HC P Q N F E R As (.region id l.toArray true) := HC_drawP pre k n V js all hm hok hk hds hnd hF hjs hall halld hdep hprek hsel hQ hpreR hpreOk hprend hpreV hmono hop htail
end Go.Sx

/-! Plain lists: the order of texts, what a stable sort is, and what its steps keep. No program in sight. -/
namespace Go.Sx
open Go

/-! ## The order of texts -/
def bl (x y : List UInt8) : Bool := Op.bytesLess x y

theorem bl_nil_right (x : List UInt8) : bl x [] = false := by cases x <;> rfl
theorem bl_cons (a b : UInt8) (x y : List UInt8) : bl (a :: x) (b :: y) = (decide (a < b) || (a == b && bl x y)) := rfl
theorem bl_irrefl (x : List UInt8) : bl x x = false := by
  induction x with
  | nil => rfl
  | cons a t ih => rw [bl_cons, ih]; simp
theorem bl_trans : ∀ {x y z : List UInt8}, bl x y = true → bl y z = true → bl x z = true := by
  intro x
  induction x with
  | nil =>
    intro y z h1 h2
    cases z with
    | nil => rw [bl_nil_right] at h2; cases h2
    | cons c t => rfl
  | cons a x ih =>
    intro y z h1 h2
    cases y with
    | nil => rw [bl_nil_right] at h1; cases h1
    | cons b y =>
      cases z with
      | nil => rw [bl_nil_right] at h2; cases h2
      | cons c z =>
        rw [bl_cons] at h1 h2 ⊢
        simp only [Bool.or_eq_true, decide_eq_true_eq, Bool.and_eq_true, beq_iff_eq] at h1 h2 ⊢
        rcases h1 with h1 | ⟨rfl, h1⟩
        · rcases h2 with h2 | ⟨rfl, h2⟩
          · exact .inl (UInt8.lt_trans h1 h2)
          · exact .inl h1
        · rcases h2 with h2 | ⟨rfl, h2⟩
          · exact .inl h2
          · exact .inr ⟨rfl, ih h1 h2⟩
theorem bl_tri (x y : List UInt8) : bl x y = true ∨ x = y ∨ bl y x = true := by
  induction x generalizing y with
  | nil => cases y with
    | nil => exact .inr (.inl rfl)
    | cons b y => exact .inl rfl
  | cons a x ih => cases y with
    | nil => exact .inr (.inr rfl)
    | cons b y =>
      rw [bl_cons, bl_cons]
      simp only [Bool.or_eq_true, decide_eq_true_eq, Bool.and_eq_true, beq_iff_eq, List.cons.injEq]
      rcases UInt8.lt_or_lt_of_ne (a := a) (b := b) |> fun h => (Classical.em (a = b)) with rfl | hne
      · rcases ih y with h | rfl | h
        · exact .inl (.inr ⟨rfl, h⟩)
        · exact .inr (.inl ⟨rfl, rfl⟩)
        · exact .inr (.inr (.inr ⟨rfl, h⟩))
      · rcases UInt8.lt_or_lt_of_ne hne with h | h
        · exact .inl (.inl h)
        · exact .inr (.inr (.inl h))
theorem bl_asymm {x y : List UInt8} (h : bl x y = true) : bl y x = false := by
  cases h2 : bl y x with
  | false => rfl
  | true => rw [← bl_irrefl x]; exact (bl_trans h h2).symm
/-- Not greater. -/
def ble (x y : List UInt8) : Prop := bl y x = false
theorem ble_refl (x : List UInt8) : ble x x := bl_irrefl x
theorem ble_trans {x y z : List UInt8} (h1 : ble x y) (h2 : ble y z) : ble x z := by
  unfold ble at *
  cases h : bl z x with
  | false => rfl
  | true =>
    rcases bl_tri y x with h3 | rfl | h3
    · rw [h3] at h1; cases h1
    · rw [h] at h2; cases h2
    · rw [bl_trans h h3] at h2; cases h2
theorem ble_of_bl {x y : List UInt8} (h : bl x y = true) : ble x y := bl_asymm h
theorem ble_total (x y : List UInt8) : ble x y ∨ bl y x = true := by
  unfold ble
  cases bl y x <;> simp
theorem bl_of_bl_ble {x y z : List UInt8} (h1 : bl x y = true) (h2 : ble y z) : bl x z = true := by
  rcases bl_tri x z with h | rfl | h
  · exact h
  · unfold ble at h2; rw [h1] at h2; cases h2
  · unfold ble at h2; rw [bl_trans h h1] at h2; cases h2
theorem bl_of_ble_bl {x y z : List UInt8} (h1 : ble x y) (h2 : bl y z = true) : bl x z = true := by
  rcases bl_tri x z with h | rfl | h
  · exact h
  · unfold ble at h1; rw [h2] at h1; cases h1
  · unfold ble at h1; rw [bl_trans h2 h] at h1; cases h1
theorem ble_antisymm {x y : List UInt8} (h1 : ble x y) (h2 : ble y x) : x = y := by
  rcases bl_tri x y with h | h | h
  · unfold ble at h2; rw [h] at h2; cases h2
  · exact h
  · unfold ble at h1; rw [h] at h1; cases h1

/-! ## Stability: of each key the same elements, in the same order -/
section
variable {α : Type} (key : α → List UInt8)

def StEq (l l' : List α) : Prop := ∀ k, l.filter (fun x => key x == k) = l'.filter (fun x => key x == k)
def SortedK (l : List α) : Prop := l.Pairwise fun x y => ble (key x) (key y)
end

section
variable {α : Type} {key : α → List UInt8}
theorem StEq.refl (l : List α) : StEq key l l := fun _ => rfl
theorem StEq.trans {a b c : List α} (h1 : StEq key a b) (h2 : StEq key b c) : StEq key a c := fun k => (h1 k).trans (h2 k)
theorem StEq.symm {a b : List α} (h : StEq key a b) : StEq key b a := fun k => (h k).symm
theorem StEq.app {a a' b b' : List α} (h1 : StEq key a a') (h2 : StEq key b b') : StEq key (a ++ b) (a' ++ b') := fun k => by
  rw [List.filter_append, List.filter_append, h1 k, h2 k]
/-- Two pieces that have no key in common may change places. -/
theorem StEq.swap {x y : List α} (h : ∀ a ∈ x, ∀ b ∈ y, key a ≠ key b) : StEq key (x ++ y) (y ++ x) := fun k => by
  rw [List.filter_append, List.filter_append]
  by_cases hx : ∃ a ∈ x, key a = k
  · obtain ⟨a, ha, rfl⟩ := hx
    have : y.filter (fun b => key b == key a) = [] := by
      rw [List.filter_eq_nil_iff]
      intro b hb
      simpa using fun e => h a ha b hb e.symm
    rw [this]; simp
  · have : x.filter (fun b => key b == k) = [] := by
      rw [List.filter_eq_nil_iff]
      intro b hb
      simpa using fun e => hx ⟨b, hb, e⟩
    rw [this]; simp
theorem StEq.mem {a b : List α} (h : StEq key a b) (x : α) : x ∈ a ↔ x ∈ b := by
  have := h (key x)
  constructor
  · intro hx
    have h1 : x ∈ a.filter (fun y => key y == key x) := List.mem_filter.2 ⟨hx, by simp⟩
    rw [this] at h1
    exact (List.mem_filter.1 h1).1
  · intro hx
    have h1 : x ∈ b.filter (fun y => key y == key x) := List.mem_filter.2 ⟨hx, by simp⟩
    rw [← this] at h1
    exact (List.mem_filter.1 h1).1

/-- A stable sort's result is one. -/
theorem sorted_unique : ∀ {a b : List α}, SortedK key a → SortedK key b → StEq key a b → a = b := by
  intro a
  induction a with
  | nil =>
    intro b _ _ h
    cases b with
    | nil => rfl
    | cons y t => have := (h.mem y).2 (by simp); cases this
  | cons x a ih =>
    intro b ha hb h
    cases b with
    | nil => have := (h.mem x).1 (by simp); cases this
    | cons y b =>
      have hx : ∀ z ∈ a, ble (key x) (key z) := (List.pairwise_cons.1 ha).1
      have hy : ∀ z ∈ b, ble (key y) (key z) := (List.pairwise_cons.1 hb).1
      have hxy : key x = key y := by
        refine ble_antisymm ?_ ?_
        · rcases List.mem_cons.1 ((h.mem y).2 (by simp)) with rfl | hm
          · exact ble_refl _
          · exact hx y hm
        · rcases List.mem_cons.1 ((h.mem x).1 (by simp)) with rfl | hm
          · exact ble_refl _
          · exact hy x hm
      have h1 := h (key x)
      simp only [List.filter_cons, beq_self_eq_true, if_true] at h1
      rw [if_pos (by simp [hxy])] at h1
      injection h1 with e1 e2
      subst e1
      congr 1
      refine ih (List.pairwise_cons.1 ha).2 (List.pairwise_cons.1 hb).2 (fun k => ?_)
      have h2 := h k
      simp only [List.filter_cons] at h2
      split at h2
      · injection h2
      · exact h2

/-- Stable insertion from the right; the stable sort. -/
def insK (key : α → List UInt8) (x : α) : List α → List α
  | [] => [x]
  | y :: t => bif bl (key y) (key x) then y :: insK key x t else x :: y :: t
def sortK (key : α → List UInt8) : List α → List α
  | [] => []
  | x :: t => insK key x (sortK key t)

theorem mem_insK (x z : α) : ∀ l, z ∈ insK key x l ↔ z = x ∨ z ∈ l := by
  intro l
  induction l with
  | nil => simp [insK]
  | cons y t ih =>
    simp only [insK]
    cases bl (key y) (key x) with
    | true => simp only [cond_true, List.mem_cons, ih]; constructor <;> (rintro (h | h | h) <;> simp [h])
    | false => simp
theorem sorted_insK (x : α) : ∀ l, SortedK key l → SortedK key (insK key x l) := by
  intro l
  induction l with
  | nil => intro _; simp [insK, SortedK]
  | cons y t ih =>
    intro h
    obtain ⟨h1, h2⟩ := List.pairwise_cons.1 h
    simp only [insK]
    cases hb : bl (key y) (key x) with
    | true =>
      refine List.pairwise_cons.2 ⟨fun z hz => ?_, ih h2⟩
      rcases (mem_insK x z t).1 hz with rfl | hz
      · exact ble_of_bl hb
      · exact h1 z hz
    | false =>
      refine List.pairwise_cons.2 ⟨fun z hz => ?_, h⟩
      rcases List.mem_cons.1 hz with rfl | hz
      · exact hb
      · exact ble_trans hb (h1 z hz)
theorem steq_insK (x : α) : ∀ l, StEq key (x :: l) (insK key x l) := by
  intro l
  induction l with
  | nil => exact .refl _
  | cons y t ih =>
    simp only [insK]
    cases hb : bl (key y) (key x) with
    | true =>
      have h1 : StEq key ([x] ++ [y]) ([y] ++ [x]) := .swap (by
        intro a ha b hb' e
        simp at ha hb'
        subst ha; subst hb'
        rw [e, bl_irrefl] at hb; cases hb)
      exact (h1.app (.refl t)).trans (StEq.app (.refl [y]) ih)
    | false => exact .refl _
theorem sorted_sortK (l : List α) : SortedK key (sortK key l) := by
  induction l with
  | nil => exact List.Pairwise.nil
  | cons x t ih => exact sorted_insK x _ ih
theorem steq_sortK (l : List α) : StEq key l (sortK key l) := by
  induction l with
  | nil => exact .refl _
  | cons x t ih => exact (StEq.app (.refl [x]) ih).trans (steq_insK x _)
/-- What is sorted, and of each key the same elements in the same order, is the stable sort. -/
theorem sortK_of {l l' : List α} (hs : SortedK key l') (he : StEq key l l') : l' = sortK key l :=
  sorted_unique hs (sorted_sortK l) (he.symm.trans (steq_sortK l))
theorem length_insK (x : α) (l : List α) : (insK key x l).length = l.length + 1 := by
  induction l with
  | nil => rfl
  | cons y t ih => simp only [insK]; cases bl (key y) (key x) <;> simp [ih]
theorem length_sortK (l : List α) : (sortK key l).length = l.length := by
  induction l with
  | nil => rfl
  | cons x t ih => simp [sortK, length_insK, ih]
theorem mem_sortK (l : List α) (x : α) : x ∈ sortK key l ↔ x ∈ l := ((steq_sortK l).mem x).symm
end
end Go.Sx

/-! More rules: elements of an owned array, conversions, halves, the comparison of texts. Generic: no program is named. -/
namespace Go.Sx
open Go Go.RowKit

section
variable {P : Program} {ops : Array Oper} {Q : Exit → Act → World → Prop} {N : Nat} {F : List (Nat × Value)} {E : Env} {R : Frag} {As As' : List Ent}
variable {d : Nat} {ty : TypeId} {pos : String} {af : Array Edge} {l : List Oper} {x y : Operand} {v u : Value} {T : TypeId}

/-- The newest value, spelled otherwise. -/
theorem HL_eq {v v' : Value} (e : v = v') (k : HL P ops Q N ((d, v') :: F) E R As l) : HL P ops Q N ((d, v) :: F) E R As l := e ▸ k

theorem HL_indexAddrI {b off n cap e j : Nat} {i : Int} {te : TypeId} {kd : IntKind} {agg : Bool} (hd : Nat.blt d N = true) (hT : P.underlying T = some (.slice te)) (he : Ty P te agg e)
    (hx : ev F x = some (.slice (some ⟨b, off, none⟩) n cap)) (hy : ev F y = some (.int kd i)) (hij : i = (j : Int)) (hj : j < n)
    (k : HL P ops Q N ((d, .pointer (some ⟨b, off + j * e, none⟩)) :: F) E R As l) : HL P ops Q N F E R As (⟨some d, .indexAddr T x y, ty, pos, af, none⟩ :: l) := by
  subst hij
  exact HL_indexAddr hd hT he hx hy hj k

theorem flatten_at {sz : Nat} {arr : List (List Value)} {rest : List Value} (hsz : ∀ c ∈ arr, c.length = sz) {j : Nat} {e : List Value} (hj : arr[j]? = some e) : cut (arr.flatten ++ rest) (0 + j * sz) sz = some e := by
  rw [Nat.zero_add]; exact flatten_cut sz arr rest hsz j e hj

theorem flatten_len {sz : Nat} {arr : List (List Value)} (hsz : ∀ c ∈ arr, c.length = sz) : arr.flatten.length = arr.length * sz := by
  induction arr with
  | nil => simp
  | cons c t ih =>
    simp only [List.flatten_cons, List.length_append, List.length_cons]
    rw [ih (fun c hc => hsz c (by simp [hc])), hsz c (by simp), Nat.add_mul]
    omega

theorem spl_append (a : List Value) : ∀ (b vs : List Value), spl (a ++ b) a.length vs = a ++ spl b 0 vs := by
  induction a with
  | nil => intro b vs; rfl
  | cons c t ih => intro b vs; simp [spl, ih]
theorem spl_head : ∀ (c b vs : List Value), vs.length = c.length → spl (c ++ b) 0 vs = vs ++ b := by
  intro c
  induction c with
  | nil => intro b vs h; have : vs = [] := List.eq_nil_of_length_eq_zero (by simpa using h); subst this; simp [spl_nil]
  | cons x t ih => intro b vs h; cases vs with
    | nil => simp at h
    | cons v vt => simp [spl, ih b vt (by simpa using h)]

theorem flatten_set {sz : Nat} {arr : List (List Value)} {rest : List Value} (hsz : ∀ c ∈ arr, c.length = sz) {j : Nat} (hj : j < arr.length) {e : List Value} (he : e.length = sz) :
    spl (arr.flatten ++ rest) (0 + j * sz) e = (arr.set j e).flatten ++ rest := by
  rw [Nat.zero_add]
  induction arr generalizing j with
  | nil => simp at hj
  | cons c t ih =>
    have hc := hsz c (by simp)
    cases j with
    | zero =>
      simp only [List.flatten_cons, List.append_assoc, Nat.zero_mul, List.set_cons_zero]
      exact spl_head c _ e (by omega)
    | succ j =>
      simp only [List.flatten_cons, List.append_assoc, List.set_cons_succ]
      have e1 : (j + 1) * sz = c.length + j * sz := by rw [hc, Nat.add_mul]; omega
      have h2 := ih (fun c hc => hsz c (by simp [hc])) (by simpa using hj)
      have e3 : ∀ (off : Nat) (b vs : List Value), spl (c ++ b) (c.length + off) vs = c ++ spl b off vs := by
        intro off b vs
        clear ih h2 hsz hc e1 hj
        induction c with
        | nil => simp
        | cons x ct ihc =>
          have : (x :: ct).length + off = (ct.length + off) + 1 := by simp; omega
          rw [this]
          simp [spl, ihc]
      rw [e1, e3, h2]

theorem HL_loadEl {b j sz TT : Nat} {arr : List (List Value)} {rest e : List Value} (hd : Nat.blt d N = true) (hT : Ty P T true sz) (hx : ev F x = some (.pointer (some ⟨b, 0 + j * sz, none⟩)))
    (hm : Mem As (blk b (arr.flatten ++ rest) TT)) (hsz : ∀ c ∈ arr, c.length = sz) (hj : arr[j]? = some e) (k : HL P ops Q N ((d, .agg e.toArray) :: F) E R As l) :
    HL P ops Q N F E R As (⟨some d, .load T x, ty, pos, af, none⟩ :: l) :=
  HL_load_agg hd hT hx (.own hm (flatten_at hsz hj)) k

theorem HL_storeEl {b j sz TT : Nat} {arr : List (List Value)} {rest e : List Value} (hT : Ty P T true sz) (hx : ev F x = some (.pointer (some ⟨b, 0 + j * sz, none⟩))) (hy : ev F y = some (.agg e.toArray))
    (hs : Sel As (blk b (arr.flatten ++ rest) TT) (blk b ((arr.set j e).flatten ++ rest) TT) As') (hsz : ∀ c ∈ arr, c.length = sz) (he : e.length = sz) (ho : ones e = true) (hj : j < arr.length)
    (k : HL P ops Q N F E R As' l) : HL P ops Q N F E R As (⟨none, .store T x y, ty, pos, af, none⟩ :: l) := by
  subst he
  refine HL_store (vs := e) (cs := arr.flatten ++ rest) (TT := TT) hT hx hy rfl ho (As' := As') ?_ ?_ k
  · rw [flatten_set hsz hj rfl]; exact hs
  · have h1 := flatten_len hsz
    have h2 : j * e.length + e.length ≤ arr.length * e.length := by
      have : (j + 1) * e.length ≤ arr.length * e.length := Nat.mul_le_mul_right _ hj
      rw [Nat.add_mul] at this; omega
    rw [Nat.ble_eq, List.length_append, h1]
    omega

/-! ### Numbers -/
theorem HL_conv {src dst : Nat} {kd kd' : IntKind} {a z : Int} (hd : Nat.blt d N = true) (hs : ∃ D, P.underlying src = some D) (hT : P.underlying dst = some (.int kd)) (hx : ev F x = some (.int kd' a)) (hz : kd.wrap a = z)
    (k : HL P ops Q N ((d, .int kd z) :: F) E R As l) : HL P ops Q N F E R As (⟨some d, .convert src dst x, ty, pos, af, none⟩ :: l) :=
  HL_same hd (fun a' w ha _ => by
    obtain ⟨D, hD⟩ := hs
    simp [execOp, convert, run_underlying' hD, run_underlying' hT, ha.eval hx, Conv.intToInt, hz]) k
theorem HL_shr {yT : TypeId} {kd kd' : IntKind} {a n z : Int} (hd : Nat.blt d N = true) (hx : ev F x = some (.int kd a)) (hy : ev F y = some (.int kd' n)) (hn : 0 ≤ n) (hz : a.fdiv (2 ^ (min n.toNat kd.bits)) = z)
    (k : HL P ops Q N ((d, .int kd z) :: F) E R As l) : HL P ops Q N F E R As (⟨some d, .binOp .shr T x y yT, ty, pos, af, none⟩ :: l) :=
  HL_bin hd hx hy (fun w => by
    have hn' : ¬ n < 0 := by omega
    simp [eqGuard, binOp, Op.shift, hn', hz]) k
theorem half_u64 (a : Nat) : ((a : Int)).fdiv (2 ^ (min (1 : Int).toNat IntKind.u64.bits)) = ((a / 2 : Nat) : Int) := by
  show ((a : Int)).fdiv 2 = _
  rw [Int.fdiv_eq_ediv_of_nonneg _ (by omega)]
  omega
theorem HL_mul {yT : TypeId} {a b : Int} (hd : Nat.blt d N = true) (hx : ev F x = some (.int .i64 a)) (hy : ev F y = some (.int .i64 b))
    (h1 : -9223372036854775808 ≤ a * b) (h2 : a * b ≤ 9223372036854775807) (k : HL P ops Q N ((d, .int .i64 (a * b)) :: F) E R As l) :
    HL P ops Q N F E R As (⟨some d, .binOp .mul T x y yT, ty, pos, af, none⟩ :: l) :=
  HL_bin hd hx hy (fun w => by simp [eqGuard, binOp, Op.intArith, IntWalk.i64_in _ ⟨h1, h2⟩]) k

theorem HL_callv0 {f : FuncId} {y : Operand} {xs : List Operand} {ats : Array TypeId} {us ws vs : List Value} {Post : Value → Frag → List Ent → Prop}
    (hf : IsFn P f) (hy : ev F y = some (.func (.func f) us.toArray ws.toArray)) (hx : evs F xs = some vs)
    (hc : Tri P f (us ++ vs ++ ws) E R As Post) (k : ∀ v R' As', Post v R' As' → HL P ops Q N F E R' As' l) :
    HL P ops Q N F E R As (⟨none, .call ⟨.value y, xs.toArray, ats⟩, ty, pos, af, none⟩ :: l) :=
  HL_call_gen0 (fun a w ha _ => by
    simp [execOp, resolve, Deferred.ofValue, invoke, ha.eval hy, hf.run, ha.evals hx]) hc k
end

/-! ## The comparison of texts -/
def cmpT (x y : List UInt8) : Int := if bl x y then -1 else if x = y then 0 else 1
theorem cmpT_neg {x y : List UInt8} : cmpT x y < 0 ↔ bl x y = true := by
  unfold cmpT
  cases h : bl x y with
  | true => simp
  | false => by_cases e : x = y <;> simp [e]
theorem compareBytes_eq : ∀ (x y : List UInt8), Lib.compareBytes x y = cmpT x y := by
  intro x
  induction x with
  | nil => intro y; cases y <;> rfl
  | cons a t ih =>
    intro y
    cases y with
    | nil => simp [Lib.compareBytes, cmpT, bl_nil_right]
    | cons b u =>
      simp only [Lib.compareBytes, cmpT, bl_cons, ih]
      by_cases h1 : a < b
      · simp [h1]
      · by_cases h2 : b < a
        · have hne : ¬ a = b := fun e => by subst e; exact h1 h2
          simp [h1, h2, hne]
        · have he : a = b := UInt8.le_antisymm (UInt8.not_lt.1 h2) (UInt8.not_lt.1 h1)
          subst he
          simp

/-! ## Texts -/
def kb (s : ByteArray) : List UInt8 := s.data.toList
theorem kb_inj {a b : ByteArray} (h : kb a = kb b) : a = b := by
  cases a with | mk a => cases b with | mk b =>
  congr 1
  exact Array.ext' h
section
variable {P : Program} {ops : Array Oper} {Q : Exit → Act → World → Prop} {N : Nat} {F : List (Nat × Value)} {E : Env} {R : Frag} {As As' : List Ent}
variable {d : Nat} {ty : TypeId} {pos : String} {af : Array Edge} {l : List Oper} {x y : Operand} {T yT : TypeId} {a b : ByteArray}
theorem toList_beq (a b : ByteArray) : (a.toList == b.toList) = decide (a = b) := by
  rw [ByteArray.toList_eq, ByteArray.toList_eq]
  rw [Bool.eq_iff_iff]
  simp only [beq_iff_eq, decide_eq_true_eq]
  exact ⟨fun h => kb_inj h, fun h => by rw [h]⟩
theorem HL_eqlS (hd : Nat.blt d N = true) (hx : ev F x = some (.string a)) (hy : ev F y = some (.string b)) (k : HL P ops Q N ((d, .bool (decide (a = b))) :: F) E R As l) :
    HL P ops Q N F E R As (⟨some d, .binOp .eql T x y yT, ty, pos, af, none⟩ :: l) :=
  HL_bin hd hx hy (fun w => by simp [eqGuard, binOp, Op.stringOp, toList_beq]) k
theorem HL_neqS (hd : Nat.blt d N = true) (hx : ev F x = some (.string a)) (hy : ev F y = some (.string b)) (k : HL P ops Q N ((d, .bool (!decide (a = b))) :: F) E R As l) :
    HL P ops Q N F E R As (⟨some d, .binOp .neq T x y yT, ty, pos, af, none⟩ :: l) :=
  HL_bin hd hx hy (fun w => by simp [eqGuard, binOp, Op.stringOp, toList_beq]) k
theorem HL_lssS (hd : Nat.blt d N = true) (hx : ev F x = some (.string a)) (hy : ev F y = some (.string b)) (k : HL P ops Q N ((d, .bool (bl (kb a) (kb b))) :: F) E R As l) :
    HL P ops Q N F E R As (⟨some d, .binOp .lss T x y yT, ty, pos, af, none⟩ :: l) :=
  HL_bin hd hx hy (fun w => by simp [eqGuard, binOp, Op.stringOp, bl, kb, ByteArray.toList_eq]) k
theorem HL_geqS (hd : Nat.blt d N = true) (hx : ev F x = some (.string a)) (hy : ev F y = some (.string b)) (k : HL P ops Q N ((d, .bool (!bl (kb a) (kb b))) :: F) E R As l) :
    HL P ops Q N F E R As (⟨some d, .binOp .geq T x y yT, ty, pos, af, none⟩ :: l) :=
  HL_bin hd hx hy (fun w => by simp [eqGuard, binOp, Op.stringOp, bl, kb, ByteArray.toList_eq]) k
theorem HL_gtrS (hd : Nat.blt d N = true) (hx : ev F x = some (.string a)) (hy : ev F y = some (.string b)) (k : HL P ops Q N ((d, .bool (bl (kb b) (kb a))) :: F) E R As l) :
    HL P ops Q N F E R As (⟨some d, .binOp .gtr T x y yT, ty, pos, af, none⟩ :: l) :=
  HL_bin hd hx hy (fun w => by
    have hkey : (!(bl (kb a) (kb b) || kb a == kb b)) = bl (kb b) (kb a) := by
      rw [Bool.eq_iff_iff]
      rcases bl_tri (kb a) (kb b) with h | h | h
      · simp [h, bl_asymm h]
      · simp [h, bl_irrefl]
      · have h2 := bl_asymm h
        have h3 : kb a ≠ kb b := fun e => by rw [e, bl_irrefl] at h; cases h
        simp [h, h2, h3]
    show (Result.ok (Value.bool (!(Op.bytesLess a.toList b.toList || a.toList == b.toList))) w : Result Value) = _
    rw [ByteArray.toList_eq, ByteArray.toList_eq, ← hkey]
    rfl) k
end

/-! ## Elements: what they are sorted by -/
/-- An element of a list of attributes: its key, then its value's cells. -/
def isEl (sz : Nat) (e : List Value) : Prop := e.length = sz ∧ (∃ k t, e = .string k :: t) ∧ ones e = true
def ekey : List Value → List UInt8
  | .string k :: _ => kb k
  | _ => []
/-- A function that compares two elements by their keys. -/
def CmpOk (P : Program) (g sz : Nat) : Prop := ∀ R e1 e2, isEl sz e1 → isEl sz e2 → Pure P g [.agg e1.toArray, .agg e2.toArray] R (fun _ r => r = .int .i64 (cmpT (ekey e1) (ekey e2)))
theorem isEl.eight {e : List Value} (h : isEl 8 e) : ∃ k c0 c1 c2 c3 c4 c5 c6, e = [.string k, c0, c1, c2, c3, c4, c5, c6] := by
  obtain ⟨h1, ⟨k, t, rfl⟩, _⟩ := h
  match t, h1 with
  | [c0, c1, c2, c3, c4, c5, c6], _ => exact ⟨k, c0, c1, c2, c3, c4, c5, c6, rfl⟩
theorem isEl.five {e : List Value} (h : isEl 5 e) : ∃ k c0 c1 c2 c3, e = [.string k, c0, c1, c2, c3] := by
  obtain ⟨h1, ⟨k, t, rfl⟩, _⟩ := h
  match t, h1 with
  | [c0, c1, c2, c3], _ => exact ⟨k, c0, c1, c2, c3, rfl⟩
end Go.Sx

/-! Numbers of places: sums and differences spelled as natural numbers. Generic: no program is named. -/
namespace Go.Sx
open Go Go.RowKit
section
variable {P : Program} {ops : Array Oper} {Q : Exit → Act → World → Prop} {N : Nat} {F : List (Nat × Value)} {E : Env} {R : Frag} {As As' : List Ent}
variable {d : Nat} {ty : TypeId} {pos : String} {af : Array Edge} {l : List Oper} {x y : Operand} {T yT : TypeId}
theorem HL_addN {a b : Int} {c : Nat} (hd : Nat.blt d N = true) (hx : ev F x = some (.int .i64 a)) (hy : ev F y = some (.int .i64 b)) (h : a + b = (c : Int)) (hc : c ≤ 1000000000)
    (k : HL P ops Q N ((d, .int .i64 (c : Int)) :: F) E R As l) : HL P ops Q N F E R As (⟨some d, .binOp .add T x y yT, ty, pos, af, none⟩ :: l) := by
  refine HL_add hd hx hy (by omega) (by omega) ?_
  rw [h]; exact k
theorem HL_subN {a b : Int} {c : Nat} (hd : Nat.blt d N = true) (hx : ev F x = some (.int .i64 a)) (hy : ev F y = some (.int .i64 b)) (h : a - b = (c : Int)) (hc : c ≤ 1000000000)
    (k : HL P ops Q N ((d, .int .i64 (c : Int)) :: F) E R As l) : HL P ops Q N F E R As (⟨some d, .binOp .sub T x y yT, ty, pos, af, none⟩ :: l) := by
  refine HL_sub' hd hx hy (by omega) (by omega) ?_
  rw [h]; exact k
theorem HL_mulN {a b : Int} {c : Nat} (hd : Nat.blt d N = true) (hx : ev F x = some (.int .i64 a)) (hy : ev F y = some (.int .i64 b)) (h : a * b = (c : Int)) (hc : c ≤ 1000000000)
    (k : HL P ops Q N ((d, .int .i64 (c : Int)) :: F) E R As l) : HL P ops Q N F E R As (⟨some d, .binOp .mul T x y yT, ty, pos, af, none⟩ :: l) := by
  refine HL_mul hd hx hy (by omega) (by omega) ?_
  rw [h]; exact k
/-- A tell's answer, known. -/
theorem HL_boolE {b b' : Bool} (e : b = b') (k : HL P ops Q N ((d, .bool b') :: F) E R As l) : HL P ops Q N ((d, .bool b) :: F) E R As l := e ▸ k
/-- Half of a sum, by way of unsigned numbers: what comes of the three steps. -/
theorem wrap_u64 (a : Nat) (h : a ≤ 1000000000) : IntKind.u64.wrap (a : Int) = (a : Int) := by
  refine IntWalk.u64_in _ ⟨by omega, by omega⟩
theorem wrap_i64 (a : Nat) (h : a ≤ 1000000000) : IntKind.i64.wrap (a : Int) = (a : Int) := by
  refine IntWalk.i64_in _ ⟨by omega, by omega⟩
end
end Go.Sx

/-! Rules for chains of tests: a stretch of operations that yields a bool, cut off; a bool, told apart. Generic: no program is named. -/
namespace Go.Sx
open Go Go.RowKit
section
variable {P : Program} {ops : Array Oper} {Q : Exit → Act → World → Prop} {N : Nat} {F : List (Nat × Value)} {E : Env} {R : Frag} {As As' : List Ent}
variable {d : Nat} {ty : TypeId} {pos : String} {af : Array Edge} {l : List Oper} {x y : Operand} {T yT : TypeId}

def SQ (N : Nat) (E : Env) (d : Nat) (F : List (Nat × Value)) (Φ : Bool → Frag → List Ent → Prop) : Exit → Act → World → Prop
  | .normal, a, w => ∃ c R' As', Φ c R' As' ∧ Fr a N ((d, .bool c) :: F) ∧ St E w R' As'
  | _, _, _ => False

theorem wpList_cut {Q1 Q : Exit → Act → World → Prop} {l2 : List Oper} (h : ∀ a w, Q1 .normal a w → wpList P ops Q l2 a w) (hp : ∀ c a w, ¬ Q1 (.panic c) a w) (hg : ∀ a w, ¬ Q1 .outgrown a w) :
    ∀ (l1 : List Oper) (a : Act) (w : World), wpList P ops Q1 l1 a w → wpList P ops Q (l1 ++ l2) a w := by
  intro l1
  induction l1 with
  | nil => intro a w hw; exact h a w hw
  | cons o t ih =>
    intro a w hw
    simp only [List.cons_append]
    unfold wpList at hw ⊢
    split at hw
    · rename_i hwant
      rw [if_pos hwant]
      rcases hw with hw | ⟨_, a₀, w₀, hq⟩
      · exact .inl (wp_mono2 (fun a w h => ih a w h) hp hg hw)
      · exact absurd hq (hg _ _)
    · rename_i hwant
      rw [if_neg hwant]
      exact ih _ _ hw

/-- A stretch of n operations that yields a bool. -/
theorem HL_seg (n d : Nat) (Φ : Bool → Frag → List Ent → Prop) (h1 : HL P ops (SQ N E d F Φ) N F E R As (l.take n)) (h2 : ∀ c R' As', Φ c R' As' → HL P ops Q N ((d, .bool c) :: F) E R' As' (l.drop n)) :
    HL P ops Q N F E R As l := fun a w ha hs => by
  have := wpList_cut (Q1 := SQ N E d F Φ) (Q := Q) (l2 := l.drop n) (fun a w hq => by
    obtain ⟨c, R', As', h, hf, hst⟩ := hq
    exact h2 c R' As' h a w hf hst) (fun _ _ _ h => h) (fun _ _ h => h) (l.take n) a w (h1 a w ha hs)
  rwa [List.take_append_drop] at this
theorem HQ_seg {d : Nat} {F₀ : List (Nat × Value)} {Φ : Bool → Frag → List Ent → Prop} {c : Bool} (hsub : Sub F ((d, .bool c) :: F₀)) (h : Φ c R As) : HQ (SQ N E d F₀ Φ) N F E R As .normal :=
  fun _ _ ha hst => ⟨c, R, As, h, ha.sub hsub, hst⟩
/-- The same, of a stretch that leaves all as it is. -/
theorem HL_segp (n d : Nat) (Φ : Bool → Prop) (h1 : HL P ops (SQ N E d F (fun c R' As' => R' = R ∧ As' = As ∧ Φ c)) N F E R As (l.take n)) (h2 : ∀ c, Φ c → HL P ops Q N ((d, .bool c) :: F) E R As (l.drop n)) :
    HL P ops Q N F E R As l := HL_seg n d (fun c R' As' => R' = R ∧ As' = As ∧ Φ c) h1 (by rintro c R' As' ⟨rfl, rfl, h⟩; exact h2 c h)
theorem HQ_segp {d : Nat} {F₀ : List (Nat × Value)} {Φ : Bool → Prop} {c : Bool} (hsub : Sub F ((d, .bool c) :: F₀)) (h : Φ c) : HQ (SQ N E d F₀ (fun c R' As' => R' = R ∧ As' = As ∧ Φ c)) N F E R As .normal :=
  HQ_seg hsub ⟨rfl, rfl, h⟩
/-- A bool, told apart. -/
theorem HL_move_b {b : Bool} (hd : Nat.blt d N = true) (hx : ev F x = some (.bool b)) (kt : b = true → HL P ops Q N ((d, .bool true) :: F) E R As l) (kf : b = false → HL P ops Q N ((d, .bool false) :: F) E R As l) :
    HL P ops Q N F E R As (⟨some d, .move x, ty, pos, af, none⟩ :: l) := by
  refine HL_move hd hx ?_
  cases b with
  | true => exact kt rfl
  | false => exact kf rfl
/-- An operation whose guard was itself left out. -/
theorem HL_guard_un {op : Op} {j t : Nat} {b : Bool} (hd : Nat.blt d N = true) (hj : (ops[j]?).bind (·.dst) = some t) (ht : lk F t = some undef)
    (k : HL P ops Q N ((d, undef) :: F) E R As l) : HL P ops Q N F E R As (⟨some d, op, ty, pos, af, some (j, b)⟩ :: l) := fun a w ha hs => by
  have hy : Region.wanted ⟨some d, op, ty, pos, af, some (j, b)⟩ (yielded ops a.tmps) = false := by
    simp only [Region.wanted, yielded, hj, Option.bind_some, ha.look t _ ht]
    rfl
  unfold wpList
  rw [if_neg (by rw [hy]; simp)]
  exact k _ _ (ha.put hd) hs
end
end Go.Sx

/-! Plain lists: what the steps of the library's stable sort make. No program in sight. -/
namespace Go.Sx
section
variable {α : Type} {key : α → List UInt8}
theorem sortK_sorted {l : List α} (h : SortedK key l) : sortK key l = l := (sortK_of h (.refl l)).symm
theorem sortK_small {l : List α} (h : l.length ≤ 1) : sortK key l = l := by
  match l, h with
  | [], _ => rfl
  | [x], _ => rfl
theorem SortedK.left {a b : List α} (h : SortedK key (a ++ b)) : SortedK key a := (List.pairwise_append.1 h).1
theorem SortedK.right {a b : List α} (h : SortedK key (a ++ b)) : SortedK key b := (List.pairwise_append.1 h).2.1
theorem SortedK.cross {a b : List α} (h : SortedK key (a ++ b)) : ∀ x ∈ a, ∀ y ∈ b, ble (key x) (key y) := (List.pairwise_append.1 h).2.2
theorem SortedK.app {a b : List α} (h1 : SortedK key a) (h2 : SortedK key b) (h : ∀ x ∈ a, ∀ y ∈ b, ble (key x) (key y)) : SortedK key (a ++ b) := List.pairwise_append.2 ⟨h1, h2, h⟩
/-- All of a sorted list are below what its last one is below. -/
theorem SortedK.below {l : List α} (h : SortedK key l) {t : List α} {y : α} (e : l = t ++ [y]) : ∀ x ∈ l, ble (key x) (key y) := by
  subst e
  intro x hx
  rcases List.mem_append.1 hx with hx | hx
  · exact h.cross x hx y (by simp)
  · simp at hx; subst hx; exact ble_refl _
theorem SortedK.above {l : List α} (h : SortedK key l) {t : List α} {y : α} (e : l = y :: t) : ∀ x ∈ l, ble (key y) (key x) := by
  subst e
  intro x hx
  rcases List.mem_cons.1 hx with rfl | hx
  · exact ble_refl _
  · exact (List.pairwise_cons.1 h).1 x hx

/-- Two sorted pieces, the second half of the first and the first half of the second having changed places. -/
theorem sym_mid {U1 U2 V1 V2 : List α} (hU : SortedK key (U1 ++ U2)) (hV : SortedK key (V1 ++ V2))
    (h1 : ∀ x ∈ U1, ∀ y ∈ V2, ble (key x) (key y)) (h2 : ∀ x ∈ V1, ∀ y ∈ U2, bl (key x) (key y) = true) :
    sortK key ((U1 ++ U2) ++ (V1 ++ V2)) = sortK key (U1 ++ V1) ++ sortK key (U2 ++ V2) := by
  refine (sortK_of ?_ ?_).symm
  · refine (sorted_sortK _).app (sorted_sortK _) (fun x hx y hy => ?_)
    rw [mem_sortK] at hx hy
    rcases List.mem_append.1 hx with hx | hx <;> rcases List.mem_append.1 hy with hy | hy
    · exact hU.cross x hx y hy
    · exact h1 x hx y hy
    · exact ble_of_bl (h2 x hx y hy)
    · exact hV.cross x hx y hy
  · have e1 : StEq key (U2 ++ V1) (V1 ++ U2) := .swap (fun a ha b hb e => by
      have := h2 b hb a ha
      rw [e, bl_irrefl] at this; cases this)
    have e2 : StEq key ((U1 ++ U2) ++ (V1 ++ V2)) ((U1 ++ V1) ++ (U2 ++ V2)) := by
      have := (StEq.app (.refl U1) (e1.app (.refl V2)) : StEq key (U1 ++ ((U2 ++ V1) ++ V2)) (U1 ++ ((V1 ++ U2) ++ V2)))
      simpa [List.append_assoc] using this
    exact e2.trans ((steq_sortK _).app (steq_sortK _))
/-- One element, put behind those that are less. -/
theorem sym_left {u : α} {V1 V2 : List α} (hV : SortedK key (V1 ++ V2)) (h1 : ∀ x ∈ V1, bl (key x) (key u) = true) (h2 : ∀ y ∈ V2, ble (key u) (key y)) :
    sortK key (u :: (V1 ++ V2)) = V1 ++ u :: V2 := by
  have h := sym_mid (key := key) (U1 := []) (U2 := [u]) (V1 := V1) (V2 := V2) (by simp [SortedK]) hV (by simp) (by simpa using h1)
  simp only [List.nil_append] at h
  rw [show u :: (V1 ++ V2) = [u] ++ (V1 ++ V2) from rfl, h, sortK_sorted hV.left]
  congr 1
  exact sortK_sorted (List.pairwise_cons.2 ⟨h2, hV.right⟩)
/-- One element, put ahead of those that are greater. -/
theorem sym_right {v : α} {U1 U2 : List α} (hU : SortedK key (U1 ++ U2)) (h1 : ∀ x ∈ U1, ble (key x) (key v)) (h2 : ∀ y ∈ U2, bl (key v) (key y) = true) :
    sortK key ((U1 ++ U2) ++ [v]) = U1 ++ v :: U2 := by
  have h := sym_mid (key := key) (U1 := U1) (U2 := U2) (V1 := [v]) (V2 := []) hU (by simp [SortedK]) (by simp) (by simpa using h2)
  simp only [List.append_nil] at h
  rw [h, sortK_sorted hU.right, sortK_sorted (hU.left.app (by simp [SortedK]) (by simpa using h1))]
  simp
/-- Insertion: what is kept of a sorted list that takes one more element in. -/
theorem ins_right {v : α} {L U1 U2 : List α} (hL : sortK key L = U1 ++ U2) (h1 : U1 = [] ∨ ∃ t y, U1 = t ++ [y] ∧ ble (key y) (key v)) (h2 : ∀ y ∈ U2, bl (key v) (key y) = true) :
    sortK key (L ++ [v]) = U1 ++ v :: U2 := by
  have hU : SortedK key (U1 ++ U2) := hL ▸ sorted_sortK L
  rw [← sym_right hU (by
    rcases h1 with rfl | ⟨t, y, e, h⟩
    · simp
    · intro x hx; exact ble_trans (hU.left.below e x hx) h) h2]
  refine sorted_unique (sorted_sortK _) (sorted_sortK _) ?_
  refine (steq_sortK _).symm.trans (.trans ?_ (steq_sortK _))
  exact (hL ▸ steq_sortK L : StEq key L (U1 ++ U2)).app (.refl _)

/-! ## Blocks -/
/-- Each block of n elements is sorted. -/
def Blk (key : α → List UInt8) (n : Nat) (l : List α) : Prop := ∀ i, SortedK key ((l.drop (i * n)).take n)
theorem Blk.nil (n : Nat) : Blk key n ([] : List α) := fun i => by simp [SortedK]
theorem Blk.app {n k : Nat} {A S : List α} (hA : A.length = k * n) (h : Blk key n A) (hS : SortedK key S) (hl : S.length ≤ n) : Blk key n (A ++ S) := by
  intro i
  rcases Nat.lt_trichotomy i k with hi | rfl | hi
  · have h1 : (i + 1) * n ≤ k * n := Nat.mul_le_mul_right _ hi
    rw [Nat.add_mul] at h1
    rw [List.drop_append_of_le_length (by omega), List.take_append_of_le_length (by simp; omega)]
    exact h i
  · rw [← hA, List.drop_left, List.take_of_length_le hl]
    exact hS
  · have h1 : (k + 1) * n ≤ i * n := Nat.mul_le_mul_right _ hi
    rw [Nat.add_mul] at h1
    rw [List.drop_of_length_le (by simp; omega)]
    simp [SortedK]
theorem Blk.drop {n : Nat} {l : List α} (h : Blk key n l) (j : Nat) : Blk key n (l.drop (j * n)) := by
  intro i
  rw [List.drop_drop, ← Nat.add_mul]
  exact h _
theorem Blk.right {n k : Nat} {A B : List α} (h : Blk key n (A ++ B)) (hA : A.length = k * n) : Blk key n B := by
  have := h.drop k
  rw [← hA, List.drop_left] at this
  exact this
theorem Blk.head {n : Nat} {A B : List α} (h : Blk key n (A ++ B)) (hA : A.length ≤ n) (hB : A.length = n ∨ B = []) : SortedK key A := by
  have := h 0
  simp only [Nat.zero_mul, List.drop_zero] at this
  rcases hB with hB | rfl
  · rw [List.take_append_of_le_length (by omega), List.take_of_length_le (by omega)] at this
    exact this
  · rw [List.append_nil, List.take_of_length_le hA] at this
    exact this
theorem Blk.all {n : Nat} {l : List α} (h : Blk key n l) (hl : l.length ≤ n) : SortedK key l := by
  exact Blk.head (A := l) (B := []) (by simpa using h) hl (.inr rfl)
end
end Go.Sx

/-! Attributes in plain lists: their order, sets of them, their plain form. No program is named. -/
namespace Go.Sx
open Go Go.RowKit

theorem insK_map {α β : Type} {ka : α → List UInt8} {kb : β → List UInt8} (f : α → β) (h : ∀ x, kb (f x) = ka x) (x : α) (l : List α) : insK kb (f x) (l.map f) = (insK ka x l).map f := by
  induction l with
  | nil => rfl
  | cons y t ih =>
    simp only [List.map_cons, insK, h, ih]
    cases bl (ka y) (ka x) <;> rfl
theorem sortK_map {α β : Type} {ka : α → List UInt8} {kb : β → List UInt8} (f : α → β) (h : ∀ x, kb (f x) = ka x) (l : List α) : sortK kb (l.map f) = (sortK ka l).map f := by
  induction l with
  | nil => rfl
  | cons x t ih => rw [List.map_cons, sortK, ih, insK_map f h, sortK]

/-- An attribute's key. -/
def pk (p : Pr) : List UInt8 := kb p.1
def zc (z : Pr × List Value) : List Value := .string z.1.1 :: z.2

theorem prCells_zip (Z : List (Pr × List Value)) : prCells (Z.map (·.1)) (Z.map (·.2)) = Z.map zc := by
  induction Z with
  | nil => rfl
  | cons z t ih =>
    simp only [prCells, List.map_cons, List.zipWith_cons_cons] at ih ⊢
    rw [ih]; rfl

theorem zip_of {ps : List Pr} {es : List (List Value)} (h : es.length = ps.length) : ∃ Z : List (Pr × List Value), Z.map (·.1) = ps ∧ Z.map (·.2) = es := by
  refine ⟨ps.zip es, ?_, ?_⟩
  · rw [List.map_fst_zip]; omega
  · rw [List.map_snd_zip]; omega
/-- Attributes at a place, each with its cells. -/
theorem RepP.zip {R : Frag} {v : Value} {ps : List Pr} (h : RepP R v ps) : ∃ Z : List (Pr × List Value), Z.map (·.1) = ps ∧ SlR R 8 v (Z.map zc) ∧ ∀ z ∈ Z, RepV R z.1.2 z.2 := by
  obtain ⟨es, h1, h2, h3⟩ := h
  obtain ⟨Z, rfl, rfl⟩ := zip_of h2
  refine ⟨Z, rfl, by rw [← prCells_zip]; exact h1, fun z hz => ?_⟩
  obtain ⟨i, hi, rfl⟩ := List.getElem_of_mem hz
  exact h3 i Z[i].2 Z[i].1 (by simp [hi]) (by simp [hi])
theorem RepP.of_zip {R : Frag} {v : Value} {Z : List (Pr × List Value)} (h1 : SlR R 8 v (Z.map zc)) (h2 : ∀ z ∈ Z, RepV R z.1.2 z.2) : RepP R v (Z.map (·.1)) := by
  refine ⟨Z.map (·.2), by rw [prCells_zip]; exact h1, by simp, fun i e p he hp => ?_⟩
  obtain ⟨z, hz, rfl⟩ := List.mem_map.1 (List.mem_of_getElem? he)
  have hlt : i < Z.length := by simpa using (List.getElem?_eq_some_iff.1 he).1
  have e1 := (List.getElem?_eq_some_iff.1 he).2
  have e2 := (List.getElem?_eq_some_iff.1 hp).2
  simp at e1 e2
  rw [← e1, ← e2]
  exact h2 _ (List.getElem_mem hlt)
theorem zc_key (z : Pr × List Value) : ekey (zc z) = pk z.1 := rfl
theorem zc_el {R : Frag} {z : Pr × List Value} (h : RepV R z.1.2 z.2) : isEl 8 (zc z) := by
  obtain ⟨c0, c1, c2, c3, c4, c5, c6, he, ho⟩ := h.seven
  refine ⟨by simp [zc, he], ⟨_, _, rfl⟩, ?_⟩
  unfold zc
  rw [he]
  exact ho
theorem zc_len {R : Frag} {Z : List (Pr × List Value)} (h : ∀ z ∈ Z, RepV R z.1.2 z.2) : ∀ c ∈ Z.map zc, c.length = 8 := by
  intro c hc
  obtain ⟨z, hz, rfl⟩ := List.mem_map.1 hc
  exact (zc_el (h z hz)).1
/-- Sorted cells are the cells of the sorted. -/
theorem sort_zc (Z : List (Pr × List Value)) : sortK ekey (Z.map zc) = (sortK (fun z => pk z.1) Z).map zc := sortK_map zc zc_key Z
theorem sort_fst (Z : List (Pr × List Value)) : sortK pk (Z.map (·.1)) = (sortK (fun z => pk z.1) Z).map (·.1) := sortK_map (·.1) (fun _ => rfl) Z

/-! ## Plain values -/
mutual
def plainV : V → V
  | .mk k n t nums texts kids pairs => .mk k n t nums texts (plainL kids) (sortK pk (plainP pairs))
def plainL : List V → List V
  | [] => []
  | v :: t => plainV v :: plainL t
def plainP : List Pr → List Pr
  | [] => []
  | (k, v) :: t => (k, plainV v) :: plainP t
end
theorem plainL_eq (l : List V) : plainL l = l.map plainV := by
  induction l with
  | nil => simp [plainL]
  | cons v t ih => simp [plainL, ih]
def pmap (p : Pr) : Pr := (p.1, plainV p.2)
theorem plainP_eq (l : List Pr) : plainP l = l.map pmap := by
  induction l with
  | nil => simp [plainP]
  | cons v t ih => obtain ⟨k, v⟩ := v; simp [plainP, ih, pmap]
theorem plainV_eq (k n t nums texts kids pairs) : plainV (.mk k n t nums texts kids pairs) = .mk k n t nums texts (kids.map plainV) ((sortK pk pairs).map pmap) := by
  rw [plainV, plainL_eq, plainP_eq, sortK_map (ka := pk) pmap (fun _ => rfl)]

/-! ## Sets -/
/-- One more attribute, behind those that are there: it takes the place of one with its key. -/
def setAdd (out : List Pr) (p : Pr) : List Pr := if (out.getLast?.map (·.1)) = some p.1 then out.dropLast ++ [p] else out ++ [p]
def setOf (l : List Pr) : List Pr := ((sortK pk l).map pmap).foldl setAdd []

/-! ## Clean values stay clean -/
theorem Ok.plain {v : V} (h : Ok v) : Ok (plainV v) := by
  induction h with
  | mk h1 h2 h3 h4 h5 h6 h7 h8 h9 _ h11 _ g1 g2 g3 g4 g5 g6 g7 g8 ih10 ih12 =>
    rw [plainV_eq]
    refine .mk h1 h2 h3 h4 h5 h6 h7 (by simpa using h8) (by simpa [length_sortK] using h9) ?_ ?_ ?_ g1 g2 g3 g4 (g5.imp id (by rintro rfl; rfl)) (g6.imp id (by rintro rfl; rfl)) g7 g8
    · intro v hv
      obtain ⟨u, hu, rfl⟩ := List.mem_map.1 hv
      exact ih10 u hu
    · intro p hp
      obtain ⟨u, hu, rfl⟩ := List.mem_map.1 hp
      exact h11 u ((mem_sortK _ _).1 hu)
    · intro p hp
      obtain ⟨u, hu, rfl⟩ := List.mem_map.1 hp
      exact ih12 u ((mem_sortK _ _).1 hu)
theorem OkP.plain {l : List Pr} (h : OkP l) : OkP (l.map pmap) := by
  refine ⟨by simpa using h.1, fun p hp => ?_⟩
  obtain ⟨u, hu, rfl⟩ := List.mem_map.1 hp
  exact ⟨(h.2 u hu).1, (h.2 u hu).2.plain⟩
theorem OkP.sort {l : List Pr} (h : OkP l) : OkP (sortK pk l) := ⟨by simpa [length_sortK] using h.1, fun p hp => h.2 p ((mem_sortK _ _).1 hp)⟩
theorem mem_setAdd {out : List Pr} {p q : Pr} (h : q ∈ setAdd out p) : q = p ∨ q ∈ out := by
  unfold setAdd at h
  split at h
  · rcases List.mem_append.1 h with h | h
    · exact .inr ((List.dropLast_sublist _).subset h)
    · simp at h; exact .inl h
  · rcases List.mem_append.1 h with h | h
    · exact .inr h
    · simp at h; exact .inl h
theorem length_setAdd (out : List Pr) (p : Pr) : (setAdd out p).length ≤ out.length + 1 := by
  unfold setAdd
  split <;> simp <;> omega
theorem foldl_setAdd : ∀ (l out : List Pr), (∀ q ∈ l.foldl setAdd out, q ∈ l ∨ q ∈ out) ∧ (l.foldl setAdd out).length ≤ out.length + l.length := by
  intro l
  induction l with
  | nil => intro out; exact ⟨fun q hq => .inr hq, by simp⟩
  | cons p t ih =>
    intro out
    obtain ⟨h1, h2⟩ := ih (setAdd out p)
    constructor
    · intro q hq
      rcases h1 q hq with h | h
      · exact .inl (by simp [h])
      · rcases mem_setAdd h with rfl | h
        · exact .inl (by simp)
        · exact .inr h
    · have := length_setAdd out p
      simp only [List.foldl_cons, List.length_cons]
      omega
theorem OkP.set {l : List Pr} (h : OkP l) : OkP (setOf l) := by
  have h2 := (h.sort).plain
  obtain ⟨h3, h4⟩ := foldl_setAdd ((sortK pk l).map pmap) []
  refine ⟨by have := h2.1; simp at h4; unfold setOf; simp at this; omega, fun p hp => ?_⟩
  rcases h3 p hp with hq | hq
  · exact h2.2 p hq
  · cases hq
end Go.Sx

/-! More rules: a slice against nil; elements that stay. Generic: no program is named. -/
namespace Go.Sx
open Go Go.RowKit
section
variable {P : Program} {ops : Array Oper} {Q : Exit → Act → World → Prop} {N : Nat} {F : List (Nat × Value)} {E : Env} {R : Frag} {As As' : List Ent}
variable {d : Nat} {ty : TypeId} {pos : String} {af : Array Edge} {l : List Oper} {x y : Operand} {T yT : TypeId}
theorem run_equalIn_slice_nil {t te : TypeId} (dp : Nat) (hT : P.underlying t = some (.slice te)) (a : Option Addr) (n c : Nat) (w : World) : (Op.equalIn (dp + 1) t (.slice a n c) (.slice none 0 0)).run P w = .ok a.isNone w := by
  cases a <;> simp [Op.equalIn, run_underlying' hT]
theorem run_eql_slice_nil {t te : TypeId} (hT : P.underlying t = some (.slice te)) (a : Option Addr) (n c : Nat) (w : World) : (binOp .eql t (.slice a n c) (.slice none 0 0)).run P w = .ok (.bool a.isNone) w := by
  simp only [binOp]
  have : (Op.equal t (.slice a n c) (.slice none 0 0)).run P w = .ok a.isNone w := run_equalIn_slice_nil 9999 hT a n c w
  simp [this]
theorem run_neq_slice_nil {t te : TypeId} (hT : P.underlying t = some (.slice te)) (a : Option Addr) (n c : Nat) (w : World) : (binOp .neq t (.slice a n c) (.slice none 0 0)).run P w = .ok (.bool (!a.isNone)) w := by
  simp only [binOp]
  have : (Op.equal t (.slice a n c) (.slice none 0 0)).run P w = .ok a.isNone w := run_equalIn_slice_nil 9999 hT a n c w
  simp [this]
theorem HL_eql_slice {te : TypeId} {a : Option Addr} {n c : Nat} (hT : P.underlying T = some (.slice te)) (hd : Nat.blt d N = true) (hx : ev F x = some (.slice a n c)) (hy : ev F y = some (.slice none 0 0))
    (k : HL P ops Q N ((d, .bool a.isNone) :: F) E R As l) : HL P ops Q N F E R As (⟨some d, .binOp .eql T x y yT, ty, pos, af, none⟩ :: l) :=
  HL_bin hd hx hy (fun w => by simp [eqGuard, run_eql_slice_nil hT]) k
theorem HL_neq_slice {te : TypeId} {a : Option Addr} {n c : Nat} (hT : P.underlying T = some (.slice te)) (hd : Nat.blt d N = true) (hx : ev F x = some (.slice a n c)) (hy : ev F y = some (.slice none 0 0))
    (k : HL P ops Q N ((d, .bool (!a.isNone)) :: F) E R As l) : HL P ops Q N F E R As (⟨some d, .binOp .neq T x y yT, ty, pos, af, none⟩ :: l) :=
  HL_bin hd hx hy (fun w => by simp [eqGuard, run_neq_slice_nil hT]) k
/-- append of nothing. -/
theorem HL_append0 {t te sz n cap c : Nat} {agg : Bool} {s : Operand} {ba bb : Option Addr} (hd : Nat.blt d N = true) (hT : P.underlying t = some (.slice te)) (hte : Ty P te agg sz)
    (hsv : ev F s = some (.slice ba n cap)) (hn : n ≤ cap) (hx : ev F x = some (.slice bb 0 c)) (k : HL P ops Q N ((d, .slice ba n cap) :: F) E R As l) :
    HL P ops Q N F E R As (⟨some d, .call ⟨.builtin .append, #[s, x], #[t, t]⟩, ty, pos, af, none⟩ :: l) :=
  HL_same hd (fun a w ha hs => by
    obtain ⟨i, hi, hisz⟩ := hte.info
    cases ba <;> cases bb <;> simp [execOp, resolve, invoke, builtin, ha.eval hsv, ha.eval hx, Builtin.append_, run_underlying' hT, Builtin.lenOf, Builtin.firstCells, sizeOf, typeInfo, hi, hn, loadCells, loadCellsFrom, storeCells]) k
end
/-! ## A whole slice that stays -/
theorem cut_flat {sz : Nat} {cs : List Value} {off : Nat} : ∀ (es : List (List Value)), es ≠ [] → (∀ c ∈ es, c.length = sz) → (∀ (i : Nat) vs, es[i]? = some vs → cut cs (off + i * sz) sz = some vs) → cut cs off (es.length * sz) = some es.flatten := by
  intro es
  induction es generalizing off with
  | nil => intro h; exact absurd rfl h
  | cons c t ih =>
    intro _ hl h
    have h0 := h 0 c rfl
    rw [Nat.zero_mul, Nat.add_zero] at h0
    by_cases ht : t = []
    · subst ht; simpa using h0
    · have h1 := ih (off := off + sz) ht (fun c hc => hl c (by simp [hc])) (fun i vs hi => by
        have := h (i + 1) vs (by simpa using hi)
        rw [Nat.add_mul] at this
        rw [show off + sz + i * sz = off + (i * sz + 1 * sz) by omega]; exact this)
      rw [cut_eq] at h0 h1 ⊢
      obtain ⟨a1, a2⟩ := h0
      obtain ⟨b1, b2⟩ := h1
      have e : (c :: t).length * sz = sz + t.length * sz := by simp [Nat.add_mul]; omega
      refine ⟨by rw [e]; omega, ?_⟩
      rw [e, List.take_add, a2, List.drop_drop, List.flatten_cons]
      rw [← b2]
theorem SlR.all {R : Frag} {sz : Nat} {v : Value} {es : List (List Value)} (h : SlR R sz v es) (hne : es ≠ []) : ∃ b off cap, v = .slice (some ⟨b, off, none⟩) es.length cap ∧ RdR R b off (es.length * sz) es.flatten := by
  obtain ⟨p, cap, h1, h2⟩ := h
  obtain ⟨b, off, rfl, h4⟩ := h2 hne
  obtain ⟨c, t, rfl⟩ : ∃ c t, es = c :: t := by
    cases es with
    | nil => exact absurd rfl hne
    | cons c t => exact ⟨c, t, rfl⟩
  obtain ⟨cs, T, fr, hb, hc0⟩ := h4 0 c rfl
  have hc : ∀ (i : Nat) vs, (c :: t)[i]? = some vs → cut cs (off + i * sz) sz = some vs := by
    intro i vs hi
    obtain ⟨cs', T', fr', hb', hc'⟩ := h4 i vs hi
    rw [hb] at hb'
    injection hb' with hb'
    injection hb' with e1 e2 e3
    injection e1 with e1
    subst e1
    exact hc'
  refine ⟨b, off, cap, h1, cs, T, fr, hb, cut_flat _ (by simp) (fun c hc' => ?_) hc⟩
  obtain ⟨i, hi, rfl⟩ := List.getElem_of_mem hc'
  have := hc i _ (List.getElem?_eq_getElem hi)
  rw [cut_eq] at this
  have hl := congrArg List.length this.2
  rw [List.length_take, List.length_drop] at hl
  have h3 := this.1
  omega
end Go.Sx

/-! Plain lists: elements in the middle. No program in sight. -/
namespace Go.Sx
section
variable {α : Type}
theorem get_mid {P S : List α} {x : α} {j : Nat} (h : j = P.length) : (P ++ x :: S)[j]? = some x := by
  subst h; simp
theorem set_mid {P S : List α} {x y : α} {j : Nat} (h : j = P.length) : (P ++ x :: S).set j y = P ++ y :: S := by
  subst h; simp
theorem split_at {l : List α} {i : Nat} (h : i ≤ l.length) : ∃ a b, l = a ++ b ∧ a.length = i := ⟨l.take i, l.drop i, by simp, by simp; omega⟩
theorem cons_of_pos {l : List α} (h : 0 < l.length) : ∃ x t, l = x :: t := by
  cases l with
  | nil => simp at h
  | cons x t => exact ⟨x, t, rfl⟩
theorem snoc_of_pos {l : List α} (h : 0 < l.length) : ∃ t x, l = t ++ [x] := by
  exact ⟨l.dropLast, l.getLast (fun e => by subst e; simp at h), (List.dropLast_concat_getLast _).symm⟩
end
end Go.Sx

/-! Own slices as arrays: chunk by chunk. Generic: no program is named. -/
namespace Go.Sx
open Go Go.RowKit
theorem OwnS.arr {te sz : Nat} {v : Value} {n : Nat} {es : List (List Value)} {e : Ent} (h : OwnS te sz v n es.flatten e) (hn : 0 < n) :
    ∃ g cap rest, v = .slice (some ⟨g, 0, none⟩) n cap ∧ e = blk g (es.flatten ++ rest) te ∧ n ≤ cap ∧ cap ≤ maxLen ∧ (es.flatten ++ rest).length = cap * sz := by
  rcases h.2 with ⟨_, h2, _⟩ | ⟨g, cap, cur, rfl, rfl, h3, h4, h5, h6⟩
  · omega
  · have hcur : cur = es.flatten ++ cur.drop (n * sz) := by rw [← h6]; exact (List.take_append_drop _ _).symm
    refine ⟨g, cap, cur.drop (n * sz), rfl, ?_, h3, h4, ?_⟩
    · rw [← hcur]
    · rw [← hcur]; exact h5
theorem OwnS.of_arr {te sz n g cap : Nat} {es : List (List Value)} {rest : List Value} (hn : es.length = n) (hl : ∀ c ∈ es, c.length = sz) (h3 : n ≤ cap) (h4 : cap ≤ maxLen) (h5 : (es.flatten ++ rest).length = cap * sz) :
    OwnS te sz (.slice (some ⟨g, 0, none⟩) n cap) n es.flatten (blk g (es.flatten ++ rest) te) := by
  have hf := flatten_len hl
  rw [hn] at hf
  exact ⟨hf, .inr ⟨g, cap, _, rfl, rfl, h3, h4, h5, by rw [List.take_append_of_le_length (by omega), List.take_of_length_le (by omega)]⟩⟩
/-- A part of an element. -/
theorem flatten_part {sz j k m : Nat} {arr : List (List Value)} {rest e vs : List Value} (hsz : ∀ c ∈ arr, c.length = sz) (hj : arr[j]? = some e) (hk : cut e k m = some vs) : cut (arr.flatten ++ rest) (0 + j * sz + k) m = some vs := by
  have h := flatten_at (rest := rest) hsz hj
  rw [cut_eq] at h hk ⊢
  obtain ⟨h1, h2⟩ := h
  obtain ⟨h3, h4⟩ := hk
  have hl : e.length = sz := hsz e (List.mem_of_getElem? hj)
  refine ⟨by omega, ?_⟩
  rw [h4, h2, List.drop_take, List.take_take, List.drop_drop, Nat.min_eq_left (by omega)]
theorem foldl_take {α β : Type} (f : β → α → β) (b : β) (l : List α) {i : Nat} {x : α} (h : l[i]? = some x) : (l.take (i + 1)).foldl f b = f ((l.take i).foldl f b) x := by
  rw [List.take_add_one, h, List.foldl_append]; rfl
theorem getLast_map {α β : Type} (f : α → β) (l : List α) (x : α) : ((l ++ [x]).map f).getLast? = some (f x) := by simp
end Go.Sx

/-! Rules for texts and their bytes; entries of Go's run-time. Generic: no program is named. -/
namespace Go.Sx
open Go Go.RowKit
def bcells (s : List UInt8) : List Value := s.map fun c => .int .u8 (c.toNat : Int)
theorem bcells_ones (s : List UInt8) : ones (bcells s) = true := by
  unfold ones bcells
  rw [List.all_eq_true]
  intro x hx
  obtain ⟨c, _, rfl⟩ := List.mem_map.1 hx
  rfl
section
variable {P : Program} {ops : Array Oper} {Q : Exit → Act → World → Prop} {N : Nat} {F : List (Nat × Value)} {E : Env} {R : Frag} {As As' : List Ent}
variable {d : Nat} {ty : TypeId} {pos : String} {af : Array Edge} {l : List Oper} {x y : Operand} {T yT : TypeId}

/-- A text's bytes, in memory that stays. -/
theorem HL_strBytes {src dst e : TypeId} {s : ByteArray} (hd : Nat.blt d N = true) (hs : P.underlying src = some .string) (hT : P.underlying dst = some (.slice e)) (he : P.underlying e = some (.int .u8)) (hx : ev F x = some (.string s))
    (k : ∀ b cap R', Frag.le R R' → RdR R' b 0 s.size (bcells (kb s)) → HL P ops Q N ((d, .slice (some ⟨b, 0, none⟩) s.size cap) :: F) E R' As l) :
    HL P ops Q N F E R As (⟨some d, .convert src dst x, ty, pos, af, none⟩ :: l) := fun a w ha hst => by
  have hr := run_bytes_of_string w src dst e s hs hT he
  have hst1 := (hst.drew (w.drawn + 1)).push (.cells (bytesRow s (grownCap w s.size 0 e)) e ((bytesRow s (grownCap w s.size 0 e)).size, (bytesRow s (grownCap w s.size 0 e)).size + 1))
  obtain ⟨R', h1, h2, h3⟩ := hst1.sealUp .here
  refine wp_value rfl (v := .slice (some ⟨w.heap.size, 0, none⟩) s.size (grownCap w s.size 0 e)) ?_ (k w.heap.size (grownCap w s.size 0 e) R' h1 ⟨(bytesRow s (grownCap w s.size 0 e)).toList, e, _, h2, ?_⟩ _ _ (ha.put hd) h3)
  · simp only [execOp, ha.eval hx]
    rw [Sem.run_bind, hr]
    rfl
  · rw [cut_eq]
    simp [bytesRow, bcells, kb]
/-- Bytes made a text. -/
theorem HL_bytesStr {src dst e : TypeId} {b off n cap : Nat} {s : List UInt8} (hd : Nat.blt d N = true) (hs : P.underlying src = some (.slice e)) (he : P.underlying e = some (.int .u8)) (hT : P.underlying dst = some .string) (hx : ev F x = some (.slice (some ⟨b, off, none⟩) n cap))
    (hr : Rd As R b off n (bcells s)) (k : HL P ops Q N ((d, .string ⟨s.toArray⟩) :: F) E R As l) :
    HL P ops Q N F E R As (⟨some d, .convert src dst x, ty, pos, af, none⟩ :: l) :=
  HL_same hd (fun a w ha hst => by
    have hn : n = s.length := by have := hr.len; simpa [bcells] using this.symm
    subst hn
    have := run_convert_bytes_back (P := P) w src dst e ⟨b, off, none⟩ cap s hs he hT (fun j hj => by
      have := hr.cells hst j (.int .u8 (s[j].toNat : Int)) (by simp [bcells, hj])
      rw [Addr.add_mk]; exact this)
    simp only [execOp, ha.eval hx]
    rw [Sem.run_bind, this]
    rfl) k
/-- An entry of Go's run-time that yields a value and leaves all as it is. -/
theorem HL_extern {f : FuncId} {xs : List Operand} {ats : Array TypeId} {vs : List Value} {v : Value} (hd : Nat.blt d N = true) (hx : evs F xs = some vs) (hrun : ∀ w, (callFunc f vs.toArray).run P w = .ok (.value v) w)
    (k : HL P ops Q N ((d, v) :: F) E R As l) : HL P ops Q N F E R As (⟨some d, .call ⟨.value (.func f), xs.toArray, ats⟩, ty, pos, af, none⟩ :: l) :=
  HL_same hd (fun a w ha _ => by
    have e1 := ha.evals hx
    have e2 : a.eval (.func f) = .func (.func f) #[] #[] := rfl
    simp [execOp, resolve, Deferred.ofValue, invoke, e2, e1, hrun]) k
end
end Go.Sx

/-! Attributes of the package, as trees. Generic but for the numbers of the types of lists. -/
namespace Go.Sx
open Go Go.RowKit
def bolCells (l : List Int) : List (List Value) := l.map fun n => [.bool (n != 0)]
def i64Cells (l : List Int) : List (List Value) := l.map fun n => [.int .i64 (IntKind.i64.wrap n)]
def fltCells (l : List Int) : List (List Value) := l.map fun n => [.float .f64 n.toNat]

/-- How a value of the package reads: four cells: its kind, its number, its text, its list. -/
inductive RepA (R : Frag) : V → List Value → Prop
  | one {k n t} : (k = 0 ∧ n = 0 ∧ t = ⟨#[]⟩ ∨ (k = 1 ∨ k = 2 ∨ k = 3) ∧ t = ⟨#[]⟩ ∨ (k = 4 ∨ k = 9) ∧ n = 0) → RepA R (.mk k n t [] [] [] []) [.int .i64 k, .int .u64 n, .string t, .nilIface]
  | bools {nums s} : SlR R 1 s (bolCells nums) → RepA R (.mk 5 0 ⟨#[]⟩ nums [] [] []) [.int .i64 5, .int .u64 0, .string ⟨#[]⟩, .iface 186 s]
  | ints {nums s} : SlR R 1 s (i64Cells nums) → RepA R (.mk 6 0 ⟨#[]⟩ nums [] [] []) [.int .i64 6, .int .u64 0, .string ⟨#[]⟩, .iface 188 s]
  | floats {nums s} : SlR R 1 s (fltCells nums) → RepA R (.mk 7 0 ⟨#[]⟩ nums [] [] []) [.int .i64 7, .int .u64 0, .string ⟨#[]⟩, .iface 190 s]
  | texts {texts s} : SlR R 1 s (txtCells texts) → RepA R (.mk 8 0 ⟨#[]⟩ [] texts [] []) [.int .i64 8, .int .u64 0, .string ⟨#[]⟩, .iface 31 s]
  | list {kids s es} : SlR R 4 s es → es.length = kids.length → (∀ (i : Nat) e v, es[i]? = some e → kids[i]? = some v → RepA R v e) →
      RepA R (.mk 10 0 ⟨#[]⟩ [] [] kids []) [.int .i64 10, .int .u64 0, .string ⟨#[]⟩, .iface 194 s]
  | map {pairs s es} : SlR R 5 s (prCells pairs es) → es.length = pairs.length → (∀ (i : Nat) e p, es[i]? = some e → pairs[i]? = some p → RepA R p.2 e) →
      RepA R (.mk 11 0 ⟨#[]⟩ [] [] [] pairs) [.int .i64 11, .int .u64 0, .string ⟨#[]⟩, .iface 84 s]

theorem RepA.mono {R R' : Frag} (hle : Frag.le R R') {v cs} (h : RepA R v cs) : RepA R' v cs := by
  induction h with
  | one h => exact .one h
  | bools h => exact .bools (h.mono hle)
  | ints h => exact .ints (h.mono hle)
  | floats h => exact .floats (h.mono hle)
  | texts h => exact .texts (h.mono hle)
  | list h1 h2 _ ih => exact .list (h1.mono hle) h2 ih
  | map h1 h2 _ ih => exact .map (h1.mono hle) h2 ih
theorem RepA.len {R : Frag} {v cs} (h : RepA R v cs) : cs.length = 4 := by cases h <;> rfl
theorem RepA.onesT {R : Frag} {v cs} (h : RepA R v cs) : ones cs = true := by cases h <;> rfl
theorem RepA.four {R : Frag} {v : V} {e : List Value} (h : RepA R v e) : ∃ c0 c1 c2 c3, e = [c0, c1, c2, c3] ∧ ones [c0, c1, c2, c3] = true := by
  have ho := h.onesT
  cases h <;> exact ⟨_, _, _, _, rfl, ho⟩

/-- A list of attributes of the package: each with its four cells. -/
def RepQ (R : Frag) (v : Value) (Z : List (Pr × List Value)) : Prop := SlR R 5 v (Z.map zc) ∧ ∀ z ∈ Z, RepA R z.1.2 z.2
theorem RepQ.mono {R R' : Frag} (hle : Frag.le R R') {v Z} (h : RepQ R v Z) : RepQ R' v Z := ⟨h.1.mono hle, fun z hz => (h.2 z hz).mono hle⟩
theorem zcA_el {R : Frag} {z : Pr × List Value} (h : RepA R z.1.2 z.2) : isEl 5 (zc z) := by
  obtain ⟨c0, c1, c2, c3, he, ho⟩ := h.four
  refine ⟨by simp [zc, he], ⟨_, _, rfl⟩, ?_⟩
  unfold zc
  rw [he]
  exact ho
theorem zcA_len {R : Frag} {Z : List (Pr × List Value)} (h : ∀ z ∈ Z, RepA R z.1.2 z.2) : ∀ c ∈ Z.map zc, c.length = 5 := by
  intro c hc
  obtain ⟨z, hz, rfl⟩ := List.mem_map.1 hc
  exact (zcA_el (h z hz)).1
end Go.Sx

/-! Rules for type assertions. Generic: no program is named. -/
namespace Go.Sx
open Go Go.RowKit
section
variable {P : Program} {ops : Array Oper} {Q : Exit → Act → World → Prop} {N : Nat} {F : List (Nat × Value)} {E : Env} {R : Frag} {As As' : List Ent}
variable {d : Nat} {ty : TypeId} {pos : String} {af : Array Edge} {l : List Oper} {x y : Operand} {T yT : TypeId}
/-- The type asserted is a type of slices. -/
theorem HL_assert_yes {xT A te : TypeId} {v : Value} (hd : Nat.blt d N = true) (hT : P.underlying A = some (.slice te)) (hx : ev F x = some (.iface A v)) (k : HL P ops Q N ((d, .tuple #[v, .bool true]) :: F) E R As l) :
    HL P ops Q N F E R As (⟨some d, .typeAssert x xT A true, ty, pos, af, none⟩ :: l) :=
  HL_same hd (fun a w ha _ => by simp [execOp, Instr.typeAssert, ha.eval hx, run_underlying' hT]) k
theorem HL_assert_no {xT A B te : TypeId} {v z : Value} (hd : Nat.blt d N = true) (hT : P.underlying A = some (.slice te)) (hz : TyZ P A z) (hx : ev F x = some (.iface B v)) (hne : Nat.beq B A = false) (k : HL P ops Q N ((d, .tuple #[z, .bool false]) :: F) E R As l) :
    HL P ops Q N F E R As (⟨some d, .typeAssert x xT A true, ty, pos, af, none⟩ :: l) :=
  HL_same hd (fun a w ha _ => by
    have hne' : ¬ B = A := fun e => by subst e; simp at hne
    simp [execOp, Instr.typeAssert, ha.eval hx, run_underlying' hT, hne', hz.run_zero]) k
theorem HL_assert_nil {xT A te : TypeId} {z : Value} (hd : Nat.blt d N = true) (hT : P.underlying A = some (.slice te)) (hz : TyZ P A z) (hx : ev F x = some .nilIface) (k : HL P ops Q N ((d, .tuple #[z, .bool false]) :: F) E R As l) :
    HL P ops Q N F E R As (⟨some d, .typeAssert x xT A true, ty, pos, af, none⟩ :: l) :=
  HL_same hd (fun a w ha _ => by
    simp [execOp, Instr.typeAssert, ha.eval hx, run_underlying' hT, hz.run_zero]) k
end
end Go.Sx

/-! A text's bytes behind a list of bytes of the call's own. Generic: no program is named. -/
namespace Go.Sx
open Go Go.RowKit Go.Lib
theorem strCells_bcells (s : ByteArray) : strCells s = bcells (kb s) := by
  simp [strCells, bcells, kb]
section
variable {P : Program} {ops : Array Oper} {Q : Exit → Act → World → Prop} {N : Nat} {F : List (Nat × Value)} {E : Env} {R : Frag} {As As' : List Ent}
variable {d : Nat} {ty : TypeId} {pos : String} {af : Array Edge} {l : List Oper} {x y : Operand} {T yT : TypeId} {v : Value}
theorem HL_appendS {t u te n : Nat} {s : Operand} {xs : List Value} {str : ByteArray} {e : Ent} {C : Ent → List Ent} (hd : Nat.blt d N = true) (hT : P.underlying t = some (.slice te)) (hu : P.underlying u = some .string) (hte : Ty P te false 1)
    (hz : TyZ P te (.int .u8 0)) (hby : TyB P te 1) (hsv : ev F s = some v) (hown : OwnS te 1 v n xs e) (hpl : Pl As e C)
    (hx : ev F x = some (.string str)) (hb1 : n + str.size ≤ 1000000000000)
    (k : ∀ v' e', OwnS te 1 v' (n + str.size) (xs ++ bcells (kb str)) e' → HL P ops Q N ((d, v') :: F) E R (C e') l) :
    HL P ops Q N F E R As (⟨some d, .call ⟨.builtin .append, #[s, x], #[t, u]⟩, ty, pos, af, none⟩ :: l) := fun a w ha hs => by
  obtain ⟨i, hi, hisz⟩ := hte.info
  obtain ⟨i', hi', hiz⟩ := hz
  obtain ⟨i'', hi'', hib⟩ := hby
  rw [hi] at hi' hi''
  injection hi' with hi'
  injection hi'' with hi''
  subst hi'
  subst hi''
  have hb0 := maxLen_big _ hb1
  obtain ⟨p, q, rfl, hC⟩ := hpl.split
  have hmem : e ∈ p ++ e :: q := by simp
  have hor := hown.owns hs hmem
  obtain ⟨v', w', hrun, hown', hg, _⟩ := run_append_own_string w 0 t u ty te i hT hu hi hiz hisz hib v n xs hor str hb0 (by omega) (by omega)
  rw [strCells_bcells] at hown'
  have hid : Ent.id e = v.ownBlock := by
    rcases hown.2 with ⟨rfl, _, rfl⟩ | ⟨g, cap, cur, rfl, rfl, _⟩ <;> rfl
  obtain ⟨e', he', hnew⟩ : ∃ e', OwnS te 1 v' (n + str.size) (xs ++ bcells (kb str)) e' ∧ ∀ b o, e' = .obj b o → w'.heap[b]? = some o ∧ (Ent.id e = some b ∨ w.heap.size ≤ b) := by
    rcases hown'.2 with ⟨h1, h2⟩ | ⟨g, cap, cur, h1, _, h3, h4, h5, h6, h7⟩
    · exact ⟨.emp, ⟨hown'.1, .inl ⟨h1, h2, rfl⟩⟩, fun b o h => by cases h⟩
    · refine ⟨.obj g (.cells cur te (0, 0)), ⟨hown'.1, .inr ⟨g, cap, cur.toList, h1, rfl, h4, h5, by simpa using h6, h7⟩⟩, fun b o h => ?_⟩
      injection h with hb ho'
      subst hb; subst ho'
      refine ⟨h3, ?_⟩
      rcases hown.2 with ⟨hv, hn0, he0⟩ | ⟨g0, cap0, cur0, hv, he0, k3, k4, k5, k6⟩
      · subst hv; subst hn0
        have hx0 : xs = [] := List.eq_nil_of_length_eq_zero (by simpa using hown.1)
        subst hx0
        obtain ⟨v2, w2, hr2, ho2, _, _⟩ := run_append_own_string w w.heap.size t u ty te i hT hu hi hiz hisz hib _ 0 [] (World.ownsRow_nil w w.heap.size te 1) str hb0 (by omega) (Nat.le_refl _)
        rw [hrun] at hr2
        injection hr2 with e1 _
        subst e1
        rcases ho2.2 with ⟨j1, _⟩ | ⟨g2, cap2, cur2, j1, j2, _⟩
        · rw [h1] at j1; cases j1
        · rw [h1] at j1
          injection j1 with j1 _ _
          injection j1 with j1
          injection j1 with j1 _ _
          subst j1
          exact .inr j2
      · subst hv; subst he0
        have hg0 := hs.own _ _ hmem
        by_cases hroom : n + str.size ≤ cap0
        · have hr3 := run_append_room_string (P := P) w t u ty te i hT hu hi hisz g0 n cap0 ⟨cur0⟩ hg0 str hroom (by simp only [List.size_toArray, k5]; omega)
          rw [hrun] at hr3
          injection hr3 with e1 _
          rw [h1] at e1
          injection e1 with e1 _ _
          injection e1 with e1
          injection e1 with e1 _ _
          subst e1
          exact .inl rfl
        · have holds : ∀ j u, xs[j]? = some u → w.cell? ((⟨g0, 0, none⟩ : Addr).add j) = some u := hor.cells (g := g0) rfl
          have hr3 := run_append_grow_string (P := P) w t u ty te i (.int .u8 0) hT hu hi hiz ⟨g0, 0, none⟩ n cap0 xs (by rw [hown.1, hisz]) holds str (by omega) (by omega) (growslice_fits (by omega) (by rw [hib]; omega))
          rw [hrun] at hr3
          injection hr3 with e1 _
          rw [h1] at e1
          injection e1 with e1 _ _
          injection e1 with e1
          injection e1 with e1 _ _
          subst e1
          exact .inr (Nat.le_refl _)
  refine wp_value rfl (v := v') (w' := w') ?_ ?_
  · show Sem.run P (do let d ← resolve a.eval _ ty; invoke d.target d.args) w = _
    simp only [resolve, Sem.run_bind, Sem.run_pure, Result.andThen_ok, invoke, builtin]
    have e1 : (#[s, x].map a.eval) = #[v, .string str] := by simp [ha.eval hsv, ha.eval hx]
    rw [e1, hrun]; rfl
  · have := k v' e' he' (a.put (some d) v') w' (ha.put hd) (by
      rw [hC]
      refine hs.swap hg.os hg.tape hg.output (fun k hk hne => hg.block k hk (fun e2 => hne (by rw [hid]; exact e2.symm))) hnew)
    exact this
end
end Go.Sx

/-! Rules: no error; a slice of an array. Generic: no program is named. -/
namespace Go.Sx
open Go Go.RowKit
section
variable {P : Program} {ops : Array Oper} {Q : Exit → Act → World → Prop} {N : Nat} {F : List (Nat × Value)} {E : Env} {R : Frag} {As As' : List Ent}
variable {d : Nat} {ty : TypeId} {pos : String} {af : Array Edge} {l : List Oper} {x y : Operand} {T yT : TypeId}
theorem run_equalIn_nilIface {t : TypeId} {ms} (dp : Nat) (hT : P.underlying t = some (.interface ms)) (w : World) : (Op.equalIn (dp + 1) t .nilIface .nilIface).run P w = .ok true w := by
  simp [Op.equalIn, run_underlying' hT]
theorem run_equal_nilIface {t : TypeId} {ms} (hT : P.underlying t = some (.interface ms)) (w : World) : (Op.equal t .nilIface .nilIface).run P w = .ok true w := run_equalIn_nilIface 9999 hT w
theorem run_neq_nilIface {t : TypeId} {ms} (hT : P.underlying t = some (.interface ms)) (w : World) : (binOp .neq t .nilIface .nilIface).run P w = .ok (.bool false) w := by
  simp only [binOp]
  simp [run_equal_nilIface hT]
theorem HL_neq_nilIface {ms} (hT : P.underlying T = some (.interface ms)) (hd : Nat.blt d N = true) (hx : ev F x = some .nilIface)
    (k : HL P ops Q N ((d, .bool false) :: F) E R As l) : HL P ops Q N F E R As (⟨some d, .binOp .neq T x (.const .nilIface) yT, ty, pos, af, none⟩ :: l) :=
  HL_bin hd hx (by rfl) (fun w => by
    have := run_neq_nilIface hT w
    simp [eqGuard, this]) k
end
end Go.Sx

/-! Rules: an array as a slice; a load of nothing; what is owned, laid down and read. Generic: no program is named. -/
namespace Go.Sx
open Go Go.RowKit
section
variable {P : Program} {ops : Array Oper} {Q : Exit → Act → World → Prop} {N : Nat} {F : List (Nat × Value)} {E : Env} {R : Frag} {As As' : List Ent}
variable {d : Nat} {ty : TypeId} {pos : String} {af : Array Edge} {l : List Oper} {x y : Operand} {T yT : TypeId}
/-- A load of a type without cells. -/
theorem HL_load0 {a : Addr} (hd : Nat.blt d N = true) (hT : Ty P T true 0) (hx : ev F x = some (.pointer (some a))) (k : HL P ops Q N ((d, .agg #[]) :: F) E R As l) :
    HL P ops Q N F E R As (⟨some d, .load T x, ty, pos, af, none⟩ :: l) :=
  HL_same hd (fun q w ha _ => by
    simp [execOp, ha.eval hx, Instr.loadAt, Instr.sureAddr, asAddr, loadVar, hT.run_isAgg, hT.run_sizeOf, loadCells, loadCellsFrom]) k
/-- The whole of an array, as a slice. -/
theorem HL_sliceArr {n te sz : Nat} {agg : Bool} {b : Nat} (hd : Nat.blt d N = true) (hT : P.underlying T = some (.array n te)) (he : Ty P te agg sz) (hn : Nat.blt 0 n = true) (hx : ev F x = some (.pointer (some ⟨b, 0, none⟩)))
    (k : HL P ops Q N ((d, .slice (some ⟨b, 0, none⟩) n n) :: F) E R As l) : HL P ops Q N F E R As (⟨some d, .slice T x none none none, ty, pos, af, none⟩ :: l) :=
  HL_same hd (fun q w ha _ => by
    have hn' : ¬ n = 0 := by simp at hn; omega
    simp [execOp, ha.eval hx, Instr.sliceAt, Instr.sureAddr, asAddr, run_underlying' hT, Instr.sliceBounds, he.run_sizeOf, hn', Addr.add_mk]) k
end
end Go.Sx

/-! Plain: the eight bytes of a number, least first. No program is named. -/
namespace Go.Sx
open Go
/-- The byte of a number at a place. -/
def byteAt (v : Int) (k : Nat) : UInt8 := UInt8.ofNat ((v.toNat / 2 ^ (8 * k)) % 256)
def le8 (v : Int) : List UInt8 := [byteAt v 0, byteAt v 1, byteAt v 2, byteAt v 3, byteAt v 4, byteAt v 5, byteAt v 6, byteAt v 7]
theorem byteAt_nat (v : Int) (k : Nat) : (byteAt v k).toNat = (v.toNat / 2 ^ (8 * k)) % 256 := by
  simp [byteAt]
/-- A number shifted and cut to a byte. -/
theorem byte_shift (v : Nat) (k : Nat) : IntKind.u8.wrap (((v / 2 ^ (8 * k) : Nat)) : Int) = ((byteAt (v : Int) k).toNat : Int) := by
  rw [byteAt_nat]
  simp [IntKind.wrap, IntKind.bits, IntKind.signed]
end Go.Sx

/-! Plain: how many values a tree has, the bytes that a digest takes of it, and a bound of these. No program is named. -/
namespace Go.Sx
open Go

/-! ## How many -/
mutual
def cntV : V → Nat
  | .mk _ _ _ _ _ kids pairs => 1 + cntL kids + cntP pairs
def cntL : List V → Nat
  | [] => 0
  | v :: t => cntV v + cntL t
def cntP : List Pr → Nat
  | [] => 0
  | (_, v) :: t => cntV v + cntP t
end
theorem cntV_eq (k n t nums texts kids pairs) : cntV (.mk k n t nums texts kids pairs) = 1 + cntL kids + cntP pairs := by rw [cntV]
theorem cntL_sum (l : List V) : cntL l = (l.map cntV).sum := by
  induction l with
  | nil => simp [cntL]
  | cons v t ih => simp [cntL, ih]
theorem cntP_sum (l : List Pr) : cntP l = (l.map fun p => cntV p.2).sum := by
  induction l with
  | nil => simp [cntP]
  | cons v t ih => obtain ⟨k, v⟩ := v; simp [cntP, ih]
theorem cntL_take {l : List V} {i : Nat} (h : i < l.length) : cntL (l.take (i + 1)) = cntL (l.take i) + cntV l[i] := by
  rw [cntL_sum, cntL_sum, List.take_add_one, List.map_append, List.sum_append]
  simp [h]
theorem cntP_take {l : List Pr} {i : Nat} (h : i < l.length) : cntP (l.take (i + 1)) = cntP (l.take i) + cntV l[i].2 := by
  rw [cntP_sum, cntP_sum, List.take_add_one, List.map_append, List.sum_append]
  simp [h]
theorem sum_perm {a b : List Nat} (h : a.Perm b) : a.sum = b.sum := by
  induction h with
  | nil => rfl
  | cons x _ ih => simp [ih]
  | swap x y l => simp; omega
  | trans _ _ h1 h2 => exact h1.trans h2
theorem sum_sub {a b : List Nat} (h : a.Sublist b) : a.sum ≤ b.sum := by
  induction h with
  | slnil => simp
  | cons x _ ih => simp; omega
  | cons_cons x _ ih => simp; omega
theorem insK_perm {α : Type} {key : α → List UInt8} (x : α) (l : List α) : (insK key x l).Perm (x :: l) := by
  induction l with
  | nil => exact .refl _
  | cons y t ih =>
    simp only [insK]
    cases bl (key y) (key x) with
    | true => exact (ih.cons y).trans (.swap _ _ _)
    | false => exact .refl _
theorem sortK_perm {α : Type} {key : α → List UInt8} (l : List α) : (sortK key l).Perm l := by
  induction l with
  | nil => exact .refl _
  | cons x t ih => exact (insK_perm x _).trans (ih.cons x)

/-! ## The bytes -/
def kid (k : Int) : Int :=
  if k = 1 then 7953749933313450591 else if k = 2 then 7592915492740740150 else if k = 3 then 7376742710626956342 else if k = 4 then 6874584755375207263
  else if k = 5 then 6875993255270243167 else if k = 6 then 3762322556277578591 else if k = 7 then 7308324551835016539 else if k = 8 then 7453010373645655387
  else if k = 9 then 6874028470941080415 else if k = 10 then 7883494272577650031 else if k = 11 then 6872316492666199903 else 7305809155345288421
/-- The bytes of the parts that are no trees. -/
def hflat (k n : Int) (t : ByteArray) (nums : List Int) (texts : List ByteArray) : List UInt8 :=
  le8 (kid k) ++ if k = 1 ∨ k = 2 ∨ k = 3 then le8 n
  else if k = 4 ∨ k = 9 then kb t
  else if k = 5 then nums.flatMap fun n => le8 (bif n != 0 then 1 else 0)
  else if k = 6 then nums.flatMap fun n => le8 (IntKind.u64.wrap (IntKind.i64.wrap n))
  else if k = 7 then nums.flatMap fun n => le8 (n.toNat : Int)
  else if k = 8 then texts.flatMap kb
  else []
mutual
def hv : V → List UInt8
  | .mk k n t nums texts kids pairs => hflat k n t nums texts ++ hvL kids ++ hvP pairs
def hvL : List V → List UInt8
  | [] => []
  | v :: t => hv v ++ hvL t
def hvP : List Pr → List UInt8
  | [] => []
  | (k, v) :: t => kb k ++ hv v ++ hvP t
end
def hq (p : Pr) : List UInt8 := kb p.1 ++ hv p.2
theorem hv_eq (k n t nums texts kids pairs) : hv (.mk k n t nums texts kids pairs) = hflat k n t nums texts ++ hvL kids ++ hvP pairs := by rw [hv]
theorem hvL_eq (l : List V) : hvL l = l.flatMap hv := by
  induction l with
  | nil => simp [hvL]
  | cons v t ih => simp [hvL, ih]
theorem hvP_eq (l : List Pr) : hvP l = l.flatMap hq := by
  induction l with
  | nil => simp [hvP]
  | cons v t ih => obtain ⟨k, v⟩ := v; simp [hvP, ih, hq]
theorem le8_len (n : Int) : (le8 n).length = 8 := rfl
theorem len_flatMap_le {α : Type} {f : α → List UInt8} {m : Nat} : ∀ {l : List α}, (∀ x ∈ l, (f x).length ≤ m) → (l.flatMap f).length ≤ m * l.length := by
  intro l
  induction l with
  | nil => intro _; simp
  | cons x t ih =>
    intro h
    have h1 := h x (by simp)
    have h2 := ih fun y hy => h y (by simp [hy])
    simp only [List.flatMap_cons, List.length_append, List.length_cons, Nat.mul_add, Nat.mul_one]
    omega
theorem len_flatMap_sum {α : Type} (f : α → List UInt8) (l : List α) : (l.flatMap f).length = (l.map fun x => (f x).length).sum := by
  induction l with
  | nil => rfl
  | cons x t ih => simp [ih]
theorem hflat_le {k n : Int} {t : ByteArray} {nums : List Int} {texts : List ByteArray} (h1 : t.size ≤ 1000) (h2 : nums.length ≤ 100) (h3 : texts.length ≤ 100) (h4 : ∀ s ∈ texts, s.size ≤ 1000) :
    (hflat k n t nums texts).length ≤ 100008 := by
  have ha : ∀ f : Int → Int, (nums.flatMap fun n => le8 (f n)).length ≤ 800 := fun f => by
    have := len_flatMap_le (f := fun n => le8 (f n)) (m := 8) (l := nums) (fun x _ => by simp [le8_len])
    omega
  have hb : (texts.flatMap kb).length ≤ 100000 := by
    have := len_flatMap_le (f := kb) (m := 1000) (l := texts) (fun x hx => h4 x hx)
    omega
  have hc : (kb t).length ≤ 1000 := h1
  have hd := ha (fun n => bif n != 0 then 1 else 0)
  have he := ha (fun n => IntKind.u64.wrap (IntKind.i64.wrap n))
  have hf := ha (fun n => (n.toNat : Int))
  unfold hflat
  rw [List.length_append, le8_len]
  split
  · rw [le8_len]; omega
  split
  · omega
  split
  · omega
  split
  · omega
  split
  · omega
  split
  · omega
  · simp
theorem hvL_le {l : List V} (h : ∀ v ∈ l, (hv v).length + 200 ≤ 100208 * cntV v) : (hvL l).length ≤ 100208 * cntL l := by
  induction l with
  | nil => simp [hvL, cntL]
  | cons v t ih =>
    have h1 := h v (by simp)
    have h2 := ih fun y hy => h y (by simp [hy])
    simp only [hvL, cntL, List.length_append, Nat.mul_add]
    omega
theorem hvP_le {l : List Pr} (hk : ∀ p ∈ l, p.1.size ≤ 200) (h : ∀ p ∈ l, (hv p.2).length + 200 ≤ 100208 * cntV p.2) : (hvP l).length ≤ 100208 * cntP l := by
  induction l with
  | nil => simp [hvP, cntP]
  | cons p t ih =>
    obtain ⟨k, v⟩ := p
    have h0 : (kb k).length ≤ 200 := hk (k, v) (by simp)
    have h1 := h (k, v) (by simp)
    have h2 := ih (fun y hy => hk y (by simp [hy])) fun y hy => h y (by simp [hy])
    simp only [hvP, cntP, List.length_append, Nat.mul_add]
    simp only at h1
    omega
theorem hv_le {v : V} (h : Ok v) : (hv v).length + 200 ≤ 100208 * cntV v := by
  induction h with
  | @mk k n t nums texts kids pairs h1 h2 h3 h4 h5 h6 h7 h8 h9 _ h11 _ g1 g2 g3 g4 g5 g6 g7 g8 ih10 ih12 =>
    rw [hv_eq, cntV_eq]
    have ha := hflat_le (k := k) (n := n) h3 h4 h6 h7
    have hb := hvL_le ih10
    have hc := hvP_le h11 ih12
    simp only [List.length_append, Nat.mul_add]
    omega
theorem OkP.hvP_le {l : List Pr} (h : OkP l) : (hvP l).length ≤ 100208 * cntP l := Sx.hvP_le (fun p hp => (h.2 p hp).1) (fun p hp => hv_le (h.2 p hp).2)
theorem OkP.hq_le {l : List Pr} (h : OkP l) (hc : cntP l ≤ 900) : (l.flatMap hq).length ≤ 90187200 := by
  have := h.hvP_le
  rw [hvP_eq] at this
  omega
/-! ## Plain values have as many -/
theorem cntV_plain : ∀ v : V, cntV (plainV v) = cntV v
  | .mk k n t nums texts kids pairs => by
    have hk : ∀ v ∈ kids, cntV (plainV v) = cntV v := fun v hv => cntV_plain v
    have hp : ∀ p ∈ pairs, cntV (plainV p.2) = cntV p.2 := fun p hp => cntV_plain p.2
    rw [plainV_eq, cntV_eq, cntV_eq, cntL_sum, cntL_sum, cntP_sum, cntP_sum, List.map_map, List.map_map]
    have e1 : kids.map (cntV ∘ plainV) = kids.map cntV := List.map_congr_left fun v hv => hk v hv
    have e2 : ((sortK pk pairs).map ((fun p => cntV p.2) ∘ pmap)).sum = (pairs.map fun p => cntV p.2).sum := by
      rw [sum_perm ((sortK_perm (key := pk) pairs).map _)]
      congr 1
      exact List.map_congr_left fun p hp' => hp p hp'
    rw [e1, e2]
termination_by v => SizeOf.sizeOf v
decreasing_by
  · have := List.sizeOf_lt_of_mem hv
    simp; omega
  · have h1 := List.sizeOf_lt_of_mem hp
    obtain ⟨a, b⟩ := p
    simp at h1 ⊢; omega
theorem cntP_plain (l : List Pr) : cntP (l.map pmap) = cntP l := by
  rw [cntP_sum, cntP_sum, List.map_map]
  congr 1
  exact List.map_congr_left fun p _ => cntV_plain p.2
end Go.Sx

/-! The guard of the reference: what it lets in is small and clean. Printed by a program of ours (wip/tools/gM7.py) out of the steps of the code. -/
namespace Go.Sx
open Go Go.Proofs Go.RowKit
set_option maxHeartbeats 8000000

inductive Wt : V → Prop
 | mk {k n t nums texts kids pairs} : (0 ≤ k ∧ k ≤ 255) → (0 ≤ n ∧ n ≤ 18446744073709551615) → (∀ x ∈ nums, 0 ≤ x ∧ x ≤ 18446744073709551615) → (∀ v ∈ kids, Wt v) → (∀ p ∈ pairs, Wt p.2) → Wt (.mk k n t nums texts kids pairs)
def WtP (ps : List Pr) : Prop := ∀ p ∈ ps, Wt p.2
def VC (R : Frag) (pl : Nat) (v : V) (e : List Value) : Prop := ∀ (L deep : Int) (E : Env) (R₁ : Frag) (As : List Ent), Frag.le R R₁ → -1 ≤ deep → deep ≤ 6 → 0 ≤ L → L ≤ 300 →
 Tri Tryz.prog 109 [.agg e.toArray, .pointer (some ⟨pl, 0, none⟩), .int .i64 deep] E R₁ (blk pl [.int .i64 L] 3 :: As)
  (fun r R' As' => Frag.le R₁ R' ∧ ∃ (L' : Int) (c : Bool), r = .bool c ∧ As' = blk pl [.int .i64 L'] 3 :: As ∧ -1 ≤ L' ∧ L' ≤ L ∧ (c = true → 0 ≤ L' ∧ Ok v ∧ L' + (cntV v : Int) ≤ L))
theorem pClean_of {R : Frag} {p : Option Addr} {cap pl : Nat} {pairs : List Pr}
  (hget : ∀ (i : Nat) (hi : i < pairs.length), ∃ b off e, p = some ⟨b, off, none⟩ ∧ RdR R b (off + i * 8) 8 (.string pairs[i].1 :: e) ∧ RepV R pairs[i].2 e ∧ VC R pl pairs[i].2 e)
  (L deep : Int) (E : Env) (R₁ : Frag) (As : List Ent) (hle1 : Frag.le R R₁) (hd1 : -1 ≤ deep) (hd2 : deep ≤ 6) (hL1 : 0 ≤ L) (hL2 : L ≤ 300) :
  Tri Tryz.prog 48 [.slice p pairs.length cap, .pointer (some ⟨pl, 0, none⟩), .int .i64 deep] E R₁ (blk pl [.int .i64 L] 3 :: As)
   (fun r R' As' => Frag.le R₁ R' ∧ ∃ (L' : Int) (c : Bool), r = .bool c ∧ As' = blk pl [.int .i64 L'] 3 :: As ∧ -1 ≤ L' ∧ L' ≤ L ∧ (c = true → 0 ≤ L' ∧ OkP pairs ∧ L' + (cntP pairs : Int) ≤ L)) := by
 refine ten Tryz.func48 ?_
 refine sq9 ?_
 refine HL_len_slice rf Tryz.underlying22 rf ?_
 refine sq3 ?_
 refine HC_cond rf (fun ht11 => ?_) (fun ht11 => ?_)
 ·skip
  refine sq6 ?_
  refine HQ_then_ret ?_
  refine hqr rf rf ?_
  exact fun w hs => ⟨_, _, _, rfl, hs, Frag.le_refl _, L, false, rfl, rfl, by omega, by omega, fun h => by cases h⟩
 ·have hlen : pairs.length ≤ 100 := by simp at ht11; omega
  refine sq6 ?_
  refine HL_len_slice rf Tryz.underlying22 rf ?_
  refine sq4 ?_
  refine hcl (fun F' R' As' m => ∃ (i : Nat) (L' : Int), i ≤ pairs.length ∧ 0 ≤ L' ∧ L' ≤ L ∧ (L' + (cntP (pairs.take i) : Int) ≤ L) ∧ (∀ q ∈ pairs.take i, q.1.size ≤ 200 ∧ Ok q.2) ∧ pairs.length - i = m ∧ Frag.le R₁ R' ∧ F' = [(0, .slice p pairs.length cap), (1, .pointer (some ⟨pl, 0, none⟩)), (2, .int .i64 deep), (12, .slice p pairs.length cap), (13, .int .i64 (pairs.length : Int)), (14, .int .i64 ((i : Int)))] ∧ As' = blk pl [.int .i64 L'] 3 :: As) (blk pl [.int .i64 L] 3 :: As) pairs.length ⟨0, L, by omega, hL1, by omega, by simp [cntP], by simp, by omega, Frag.le_refl _, rfl, rfl⟩ ?_
  rintro F' R₂ As' m ⟨i, L', hi, hL3, hL4, hcn, hok, rfl, hle2, rfl, rfl⟩
  refine sq6 ?_
  refine HC_cond rf (fun ht15 => ?_) (fun ht15 => ?_)
  ·have hlt : i < pairs.length := by simpa using ht15
   obtain ⟨b, off, ce, rfl, hrd, hrepe, hcall⟩ := hget i hlt
   obtain ⟨c0, c1, c2, c3, c4, c5, c6, rfl, hones⟩ := hrepe.seven
   have hrd2 := (hrd.mono hle1).mono hle2
   refine sq6 ?_
   refine HL_indexAddr rf Tryz.underlying22 ty54 rf rf hlt ?_
   refine HL_load_agg rf ty54 rf (vs := [_, _, _, _, _, _, _, _]) rdd ?_
   refine HL_alloc rf z54 rf (fun b8 => ?_)
   refine HL_store (vs := [_, _, _, _, _, _, _, _]) ty54 rf rf rf hones sss rf ?_
   refine sq4 ?_
   refine HL_fieldAddr rf f54_0 rf ?_
   refine HL_load_one rf ty9 rf rdd ?_
   refine HL_len_string rf Tryz.underlying9 rf ?_
   refine HL_gtr rf rf rf ?_
   refine HL_seg 8 29 (fun c R' As' => ∃ L'' : Int, Frag.le R₂ R' ∧ As' = blk b8 [.string pairs[i].1, c0, c1, c2, c3, c4, c5, c6] 54 :: blk pl [.int .i64 L''] 3 :: As ∧ -1 ≤ L'' ∧ L'' ≤ L' ∧ (c = false → pairs[i].1.size ≤ 200 ∧ 0 ≤ L'' ∧ Ok pairs[i].2 ∧ L'' + (cntV pairs[i].2 : Int) ≤ L')) ?_ ?_
   ·skip
    refine HL_move_b rf rf (fun hb22 => ?_) (fun hb22 => ?_)
    ·skip
     refine sq8 ?_
     exact HQ_seg (by repeat (first | exact trivial | refine ⟨rfl, ?_⟩)) ⟨L', Frag.le_refl _, rfl, by omega, by omega, fun h => by cases h⟩
    ·skip
     refine HL_guard_yes rf rf ?_
     refine HL_fieldAddr rf f54_1 rf ?_
     refine HL_guard_yes rf rf ?_
     refine HL_load_agg rf ty52 rf (vs := [c0, c1, c2, c3, c4, c5, c6]) (.own mmm rf) ?_
     refine sq5 ?_
     refine HL_perm (blk pl [.int .i64 L'] 3 :: blk b8 [.string pairs[i].1, c0, c1, c2, c3, c4, c5, c6] 54 :: As) (.swap _ _ _) ?_
     refine HL_call rf is109 rf (hcall L' deep E R₂ _ (Frag.le_trans hle1 hle2) hd1 hd2 hL3 (by omega)) ?_
     rintro r R₃ As' ⟨hle3, L'', c, rfl, rfl, h1, h2, hc⟩
     refine sq4 ?_
     refine HQ_perm _ (.swap _ _ _) ?_
     exact HQ_seg (by repeat (first | exact trivial | refine ⟨rfl, ?_⟩)) ⟨L'', hle3, rfl, h1, h2, fun h => ⟨by simp at hb22; omega, hc (by simpa using h)⟩⟩
   ·rintro c R₃ As' ⟨L'', hle3, rfl, hL5, hL6, hg⟩
    refine sq2 ?_
    refine HC_cond rf (fun ht29 => ?_) (fun ht29 => ?_)
    ·skip
     refine sq6 ?_
     refine HQ_block_ret ?_
     refine HQ_then_ret ?_
     refine HQ_then_ret ?_
     refine HQ_block_ret ?_
     refine HQ_then_ret ?_
     refine hqr rf rf ?_
     exact fun w hs => ⟨_, _, _, rfl, (hs.drop .here), Frag.le_trans hle2 hle3, L'', false, rfl, rfl, by omega, by omega, fun h => by cases h⟩
    ·have hg := hg ht29
     refine HC_skip ?_
     refine HQ_block ?_
     refine sq2 ?_
     refine HL_add rf rf rf (by omega) (by omega) ?_
     refine sq2 ?_
     refine HQ_drop .here ?_
     refine hqr1 (pairs.length - (i + 1)) ⟨i + 1, L'', by omega, hg.2.1, by omega, (by have h8 := cntP_take hlt; have h9 := hg.2.2.2; omega), ?_, rfl, Frag.le_trans hle2 hle3, rfl, rfl⟩
     intro q hq
     rw [List.take_add_one, List.mem_append] at hq
     rcases hq with hq | hq
     ·exact hok q hq
     ·simp [hlt] at hq; subst hq; exact ⟨hg.1, hg.2.2.1⟩
  ·have hge : i = pairs.length := by simp at ht15; omega
   subst hge
   refine HC_exit ?_
   refine sq2 ?_
   refine HQ_block_same ?_
   refine sq7 ?_
   refine hqr rf rf ?_
   exact fun w hs => ⟨_, _, _, rfl, hs, hle2, L', true, rfl, rfl, by omega, by omega, fun _ => ⟨hL3, ⟨hlen, fun q hq => hok q (by simpa using hq)⟩, by simpa using hcn⟩⟩
theorem vClean_of {R : Frag} {k n : Int} {t : ByteArray} {nums : List Int} {texts : List ByteArray} {kids : List V} {pairs : List Pr} {q1 q2 q3 q4 : Option Addr} {k1 k2 k3 k4 pl : Nat}
  (hwt : (0 ≤ k ∧ k ≤ 255) ∧ (0 ≤ n ∧ n ≤ 18446744073709551615) ∧ (∀ x ∈ nums, 0 ≤ x ∧ x ≤ 18446744073709551615))
  (h1 : SlR R 1 (.slice q1 nums.length k1) (numCells nums)) (h2 : SlR R 1 (.slice q2 texts.length k2) (txtCells texts))
  (hkids : ∀ (i : Nat) (hi : i < kids.length), ∃ b off e, q3 = some ⟨b, off, none⟩ ∧ RdR R b (off + i * 7) 7 e ∧ RepV R kids[i] e ∧ VC R pl kids[i] e)
  (hpairs : ∀ (i : Nat) (hi : i < pairs.length), ∃ b off e, q4 = some ⟨b, off, none⟩ ∧ RdR R b (off + i * 8) 8 (.string pairs[i].1 :: e) ∧ RepV R pairs[i].2 e ∧ VC R pl pairs[i].2 e) :
  VC R pl (.mk k n t nums texts kids pairs) [.int .u8 k, .int .u64 n, .string t, .slice q1 nums.length k1, .slice q2 texts.length k2, .slice q3 kids.length k3, .slice q4 pairs.length k4] := by
 intro L deep E R₁ As hle1 hd1 hd2 hL1 hL2
 refine ten Tryz.func109 ?_
 refine sq2 ?_
 refine HL_box rf rf (vs := [.int .u8 k, .int .u64 n, .string t, .slice q1 nums.length k1, .slice q2 texts.length k2, .slice q3 kids.length k3, .slice q4 pairs.length k4]) rf (fun b3 => ?_)
 refine sq8 ?_
 refine HL_load_one rf ty3 rf rdd ?_
 refine HL_sub' rf rf rf (by omega) (by omega) ?_
 refine HL_nilCheck rf rf ?_
 refine HL_store (vs := [_]) ty3 rf rf rf rf sss rf ?_
 refine sq6 ?_
 refine HL_load_one rf ty3 rf rdd ?_
 refine HL_lss rf rf rf ?_
 refine HL_segp 4 27 (fun c => c = false → 0 ≤ L - 1 ∧ 0 ≤ deep) ?_ ?_
 ·skip
  refine HL_move_b rf rf (fun hb24 => ?_) (fun hb24 => ?_)
  ·skip
   refine sq4 ?_
   exact HQ_segp (by repeat (first | exact trivial | refine ⟨rfl, ?_⟩)) (by grind)
  ·skip
   refine sq6 ?_
   exact HQ_segp (by repeat (first | exact trivial | refine ⟨rfl, ?_⟩)) (by grind)
 ·intro c27 hz1
  refine HL_segp 5 32 (fun c => c = false → 0 ≤ L - 1 ∧ 0 ≤ deep ∧ k ≤ 11) ?_ ?_
  ·skip
   refine HL_move_b rf rf (fun hb28 => ?_) (fun hb28 => ?_)
   ·skip
    refine sq5 ?_
    exact HQ_segp (by repeat (first | exact trivial | refine ⟨rfl, ?_⟩)) (by grind)
   ·skip
    refine HL_guard_yes rf rf ?_
    refine HL_fieldAddr rf f52_0 rf ?_
    refine HL_guard_yes rf rf ?_
    refine HL_load_one rf ty5 rf rdd ?_
    refine sq4 ?_
    exact HQ_segp (by repeat (first | exact trivial | refine ⟨rfl, ?_⟩)) (by grind)
  ·intro c32 hz2
   refine HL_nil ?_
   refine HQ_then ?_
   refine HC_cond rf (fun ht32 => ?_) (fun ht32 => ?_)
   ·skip
    refine sq6 ?_
    refine HQ_then_ret ?_
    refine hqr rf rf ?_
    exact fun w hs => ⟨_, _, _, rfl, hs.drop ooo, Frag.le_refl _, _, false, rfl, rfl, by omega, by omega, fun h => by cases h⟩
   ·have hz := hz2 ht32
    clear hz1 hz2
    refine sq4 ?_
    refine HL_fieldAddr rf f52_0 rf ?_
    refine HL_load_one rf ty5 rf rdd ?_
    refine HL_eql_int rf rf rf ?_
    refine HL_segp 5 40 (fun c => c = true ↔ (k = 1 ∨ k = 2)) ?_ ?_
    ·skip
     refine HL_move_b rf rf (fun hb36 => ?_) (fun hb36 => ?_)
     ·skip
      refine sq5 ?_
      exact HQ_segp (by repeat (first | exact trivial | refine ⟨rfl, ?_⟩)) (by grind)
     ·skip
      refine HL_guard_yes rf rf ?_
      refine HL_fieldAddr rf f52_0 rf ?_
      refine HL_guard_yes rf rf ?_
      refine HL_load_one rf ty5 rf rdd ?_
      refine sq4 ?_
      exact HQ_segp (by repeat (first | exact trivial | refine ⟨rfl, ?_⟩)) (by grind)
    ·intro c40 hn1
     refine HL_segp 5 45 (fun c => c = true ↔ (k = 1 ∨ k = 2 ∨ k = 3)) ?_ ?_
     ·skip
      refine HL_move_b rf rf (fun hb41 => ?_) (fun hb41 => ?_)
      ·skip
       refine sq5 ?_
       exact HQ_segp (by repeat (first | exact trivial | refine ⟨rfl, ?_⟩)) (by grind)
      ·skip
       refine HL_guard_yes rf rf ?_
       refine HL_fieldAddr rf f52_0 rf ?_
       refine HL_guard_yes rf rf ?_
       refine HL_load_one rf ty5 rf rdd ?_
       refine sq4 ?_
       exact HQ_segp (by repeat (first | exact trivial | refine ⟨rfl, ?_⟩)) (by grind)
     ·intro c45 hn2
      refine HL_assign rf rf ?_
      refine sq4 ?_
      refine HL_fieldAddr rf f52_0 rf ?_
      refine HL_load_one rf ty5 rf rdd ?_
      refine HL_eql_int rf rf rf ?_
      refine HL_segp 5 53 (fun c => c = true ↔ (k = 5 ∨ k = 6)) ?_ ?_
      ·skip
       refine HL_move_b rf rf (fun hb49 => ?_) (fun hb49 => ?_)
       ·skip
        refine sq5 ?_
        exact HQ_segp (by repeat (first | exact trivial | refine ⟨rfl, ?_⟩)) (by grind)
       ·skip
        refine HL_guard_yes rf rf ?_
        refine HL_fieldAddr rf f52_0 rf ?_
        refine HL_guard_yes rf rf ?_
        refine HL_load_one rf ty5 rf rdd ?_
        refine sq4 ?_
        exact HQ_segp (by repeat (first | exact trivial | refine ⟨rfl, ?_⟩)) (by grind)
      ·intro c53 hn3
       refine HL_segp 5 58 (fun c => c = true ↔ (k = 5 ∨ k = 6 ∨ k = 7)) ?_ ?_
       ·skip
        refine HL_move_b rf rf (fun hb54 => ?_) (fun hb54 => ?_)
        ·skip
         refine sq5 ?_
         exact HQ_segp (by repeat (first | exact trivial | refine ⟨rfl, ?_⟩)) (by grind)
        ·skip
         refine HL_guard_yes rf rf ?_
         refine HL_fieldAddr rf f52_0 rf ?_
         refine HL_guard_yes rf rf ?_
         refine HL_load_one rf ty5 rf rdd ?_
         refine sq4 ?_
         exact HQ_segp (by repeat (first | exact trivial | refine ⟨rfl, ?_⟩)) (by grind)
       ·intro c58 hn4
        refine HL_assign rf rf ?_
        refine sq4 ?_
        have hts : (!decide (t = ⟨#[]⟩)) = false → t.size = 0 := by
         intro h
         have : t = ⟨#[]⟩ := by simpa using h
         subst this; rfl
        clear hn1 hn3
        refine sq3 ?_
        refine HL_segp 5 65 (fun c => c = false → ((k = 1 ∨ k = 2 ∨ k = 3) ∨ n = 0)) ?_ ?_
        ·skip
         refine HL_move_b rf rf (fun hb61 => ?_) (fun hb61 => ?_)
         ·skip
          refine HL_guard_yes rf rf ?_
          refine HL_fieldAddr rf f52_1 rf ?_
          refine HL_guard_yes rf rf ?_
          refine HL_load_one rf ty48 rf rdd ?_
          refine HL_guard_yes rf rf ?_
          refine HL_neq_int rf rf rf ?_
          refine sq2 ?_
          exact HQ_segp (by repeat (first | exact trivial | refine ⟨rfl, ?_⟩)) (by grind)
         ·skip
          refine sq5 ?_
          exact HQ_segp (by repeat (first | exact trivial | refine ⟨rfl, ?_⟩)) (by grind)
        ·intro c65 hp1
         refine HL_segp 15 80 (fun c => c = false → ((k = 1 ∨ k = 2 ∨ k = 3) ∨ n = 0) ∧ ((k = 4 ∨ k = 9) ∨ t.size = 0)) ?_ ?_
         ·skip
          refine HL_move_b rf rf (fun hb66 => ?_) (fun hb66 => ?_)
          ·skip
           refine sq4 ?_
           refine HL_guard_un rf rf rf ?_
           refine HL_guard_un rf rf rf ?_
           refine HL_guard_un rf rf rf ?_
           refine sq2 ?_
           refine HL_guard_un rf rf rf ?_
           refine HL_guard_un rf rf rf ?_
           refine HL_guard_un rf rf rf ?_
           refine sq3 ?_
           exact HQ_segp (by repeat (first | exact trivial | refine ⟨rfl, ?_⟩)) (by grind)
          ·skip
           refine HL_guard_yes rf rf ?_
           refine HL_fieldAddr rf f52_0 rf ?_
           refine HL_guard_yes rf rf ?_
           refine HL_load_one rf ty5 rf rdd ?_
           refine HL_guard_yes rf rf ?_
           refine HL_neq_int rf rf rf ?_
           refine HL_guard_yes rf rf ?_
           refine HL_move_b rf rf (fun hb70 => ?_) (fun hb70 => ?_)
           ·skip
            refine HL_guard_yes rf rf ?_
            refine HL_fieldAddr rf f52_0 rf ?_
            refine HL_guard_yes rf rf ?_
            refine HL_load_one rf ty5 rf rdd ?_
            refine HL_guard_yes rf rf ?_
            refine HL_neq_int rf rf rf ?_
            refine sq3 ?_
            refine HL_move_b rf rf (fun hb75 => ?_) (fun hb75 => ?_)
            ·skip
             refine HL_guard_yes rf rf ?_
             refine HL_fieldAddr rf f52_2 rf ?_
             refine HL_guard_yes rf rf ?_
             refine HL_load_one rf ty9 rf rdd ?_
             refine HL_guard_yes rf rf ?_
             refine HL_neqS rf rf rf ?_
             refine sq4 ?_
             exact HQ_segp (by repeat (first | exact trivial | refine ⟨rfl, ?_⟩)) (by grind)
            ·skip
             refine sq7 ?_
             exact HQ_segp (by repeat (first | exact trivial | refine ⟨rfl, ?_⟩)) (by grind)
           ·skip
            refine sq14 ?_
            exact HQ_segp (by repeat (first | exact trivial | refine ⟨rfl, ?_⟩)) (by grind)
         ·intro c80 hp2
          refine HL_segp 10 90 (fun c => c = false → (((k = 1 ∨ k = 2 ∨ k = 3) ∨ n = 0) ∧ ((k = 4 ∨ k = 9) ∨ t.size = 0)) ∧ ((k = 5 ∨ k = 6 ∨ k = 7) ∨ nums.length = 0)) ?_ ?_
          ·skip
           refine HL_move_b rf rf (fun hb81 => ?_) (fun hb81 => ?_)
           ·skip
            refine sq3 ?_
            refine HL_guard_un rf rf rf ?_
            refine HL_guard_un rf rf rf ?_
            refine HL_guard_un rf rf rf ?_
            refine HL_guard_un rf rf rf ?_
            refine sq3 ?_
            exact HQ_segp (by repeat (first | exact trivial | refine ⟨rfl, ?_⟩)) (by grind)
           ·skip
            refine sq5 ?_
            refine HL_move_b rf rf (fun hb84 => ?_) (fun hb84 => ?_)
            ·skip
             refine HL_guard_yes rf rf ?_
             refine HL_fieldAddr rf f52_3 rf ?_
             refine HL_guard_yes rf rf ?_
             refine HL_load_one rf ty49 rf rdd ?_
             refine HL_guard_yes rf rf ?_
             refine HL_len_slice rf Tryz.underlying49 rf ?_
             refine sq6 ?_
             exact HQ_segp (by repeat (first | exact trivial | refine ⟨rfl, ?_⟩)) (by grind)
            ·skip
             refine sq8 ?_
             exact HQ_segp (by repeat (first | exact trivial | refine ⟨rfl, ?_⟩)) (by grind)
          ·intro c90 hp3
           refine HL_segp 11 101 (fun c => c = false → ((((k = 1 ∨ k = 2 ∨ k = 3) ∨ n = 0) ∧ ((k = 4 ∨ k = 9) ∨ t.size = 0)) ∧ ((k = 5 ∨ k = 6 ∨ k = 7) ∨ nums.length = 0)) ∧ (k = 8 ∨ texts.length = 0)) ?_ ?_
           ·skip
            refine HL_move_b rf rf (fun hb91 => ?_) (fun hb91 => ?_)
            ·skip
             refine sq4 ?_
             refine HL_guard_un rf rf rf ?_
             refine HL_guard_un rf rf rf ?_
             refine HL_guard_un rf rf rf ?_
             refine HL_guard_un rf rf rf ?_
             refine sq3 ?_
             exact HQ_segp (by repeat (first | exact trivial | refine ⟨rfl, ?_⟩)) (by grind)
            ·skip
             refine HL_guard_yes rf rf ?_
             refine HL_fieldAddr rf f52_0 rf ?_
             refine HL_guard_yes rf rf ?_
             refine HL_load_one rf ty5 rf rdd ?_
             refine HL_guard_yes rf rf ?_
             refine HL_neq_int rf rf rf ?_
             refine HL_guard_yes rf rf ?_
             refine HL_move_b rf rf (fun hb95 => ?_) (fun hb95 => ?_)
             ·skip
              refine HL_guard_yes rf rf ?_
              refine HL_fieldAddr rf f52_4 rf ?_
              refine HL_guard_yes rf rf ?_
              refine HL_load_one rf ty31 rf rdd ?_
              refine HL_guard_yes rf rf ?_
              refine HL_len_slice rf Tryz.underlying31 rf ?_
              refine sq6 ?_
              exact HQ_segp (by repeat (first | exact trivial | refine ⟨rfl, ?_⟩)) (by grind)
             ·skip
              refine sq8 ?_
              exact HQ_segp (by repeat (first | exact trivial | refine ⟨rfl, ?_⟩)) (by grind)
           ·intro c101 hp4
            refine HL_segp 11 112 (fun c => c = false → (((((k = 1 ∨ k = 2 ∨ k = 3) ∨ n = 0) ∧ ((k = 4 ∨ k = 9) ∨ t.size = 0)) ∧ ((k = 5 ∨ k = 6 ∨ k = 7) ∨ nums.length = 0)) ∧ (k = 8 ∨ texts.length = 0)) ∧ (k = 10 ∨ kids.length = 0)) ?_ ?_
            ·skip
             refine HL_move_b rf rf (fun hb102 => ?_) (fun hb102 => ?_)
             ·skip
              refine sq4 ?_
              refine HL_guard_un rf rf rf ?_
              refine HL_guard_un rf rf rf ?_
              refine HL_guard_un rf rf rf ?_
              refine HL_guard_un rf rf rf ?_
              refine sq3 ?_
              exact HQ_segp (by repeat (first | exact trivial | refine ⟨rfl, ?_⟩)) (by grind)
             ·skip
              refine HL_guard_yes rf rf ?_
              refine HL_fieldAddr rf f52_0 rf ?_
              refine HL_guard_yes rf rf ?_
              refine HL_load_one rf ty5 rf rdd ?_
              refine HL_guard_yes rf rf ?_
              refine HL_neq_int rf rf rf ?_
              refine HL_guard_yes rf rf ?_
              refine HL_move_b rf rf (fun hb106 => ?_) (fun hb106 => ?_)
              ·skip
               refine HL_guard_yes rf rf ?_
               refine HL_fieldAddr rf f52_5 rf ?_
               refine HL_guard_yes rf rf ?_
               refine HL_load_one rf ty50 rf rdd ?_
               refine HL_guard_yes rf rf ?_
               refine HL_len_slice rf Tryz.underlying50 rf ?_
               refine sq6 ?_
               exact HQ_segp (by repeat (first | exact trivial | refine ⟨rfl, ?_⟩)) (by grind)
              ·skip
               refine sq8 ?_
               exact HQ_segp (by repeat (first | exact trivial | refine ⟨rfl, ?_⟩)) (by grind)
            ·intro c112 hp5
             refine HL_segp 11 123 (fun c => c = false → ((((((k = 1 ∨ k = 2 ∨ k = 3) ∨ n = 0) ∧ ((k = 4 ∨ k = 9) ∨ t.size = 0)) ∧ ((k = 5 ∨ k = 6 ∨ k = 7) ∨ nums.length = 0)) ∧ (k = 8 ∨ texts.length = 0)) ∧ (k = 10 ∨ kids.length = 0)) ∧ (k = 11 ∨ pairs.length = 0)) ?_ ?_
             ·skip
              refine HL_move_b rf rf (fun hb113 => ?_) (fun hb113 => ?_)
              ·skip
               refine sq4 ?_
               refine HL_guard_un rf rf rf ?_
               refine HL_guard_un rf rf rf ?_
               refine HL_guard_un rf rf rf ?_
               refine HL_guard_un rf rf rf ?_
               refine sq3 ?_
               exact HQ_segp (by repeat (first | exact trivial | refine ⟨rfl, ?_⟩)) (by grind)
              ·skip
               refine HL_guard_yes rf rf ?_
               refine HL_fieldAddr rf f52_0 rf ?_
               refine HL_guard_yes rf rf ?_
               refine HL_load_one rf ty5 rf rdd ?_
               refine HL_guard_yes rf rf ?_
               refine HL_neq_int rf rf rf ?_
               refine HL_guard_yes rf rf ?_
               refine HL_move_b rf rf (fun hb117 => ?_) (fun hb117 => ?_)
               ·skip
                refine HL_guard_yes rf rf ?_
                refine HL_fieldAddr rf f52_6 rf ?_
                refine HL_guard_yes rf rf ?_
                refine HL_load_one rf ty22 rf rdd ?_
                refine HL_guard_yes rf rf ?_
                refine HL_len_slice rf Tryz.underlying22 rf ?_
                refine sq6 ?_
                exact HQ_segp (by repeat (first | exact trivial | refine ⟨rfl, ?_⟩)) (by grind)
               ·skip
                refine sq8 ?_
                exact HQ_segp (by repeat (first | exact trivial | refine ⟨rfl, ?_⟩)) (by grind)
             ·intro c123 hp6
              refine HL_nil ?_
              refine HQ_then ?_
              refine HC_cond rf (fun ht123 => ?_) (fun ht123 => ?_)
              ·skip
               refine sq6 ?_
               refine HQ_then_ret ?_
               refine hqr rf rf ?_
               exact fun w hs => ⟨_, _, _, rfl, hs.drop ooo, Frag.le_refl _, _, false, rfl, rfl, by omega, by omega, fun h => by cases h⟩
              ·have hp := hp6 ht123
               clear hp1 hp2 hp3 hp4 hp5 hp6 hn2 hn4 hts
               refine sq5 ?_
               refine HL_fieldAddr rf f52_2 rf ?_
               refine HL_load_one rf ty9 rf rdd ?_
               refine HL_len_string rf Tryz.underlying9 rf ?_
               refine HL_gtr rf rf rf ?_
               refine HL_segp 6 133 (fun c => c = false → t.size ≤ 1000 ∧ nums.length ≤ 100) ?_ ?_
               ·skip
                refine HL_move_b rf rf (fun hb128 => ?_) (fun hb128 => ?_)
                ·skip
                 refine sq6 ?_
                 exact HQ_segp (by repeat (first | exact trivial | refine ⟨rfl, ?_⟩)) (by grind)
                ·skip
                 refine HL_guard_yes rf rf ?_
                 refine HL_fieldAddr rf f52_3 rf ?_
                 refine HL_guard_yes rf rf ?_
                 refine HL_load_one rf ty49 rf rdd ?_
                 refine HL_guard_yes rf rf ?_
                 refine HL_len_slice rf Tryz.underlying49 rf ?_
                 refine sq4 ?_
                 exact HQ_segp (by repeat (first | exact trivial | refine ⟨rfl, ?_⟩)) (by grind)
               ·intro c133 hs1
                refine HL_segp 6 139 (fun c => c = false → (t.size ≤ 1000 ∧ nums.length ≤ 100) ∧ texts.length ≤ 100) ?_ ?_
                ·skip
                 refine HL_move_b rf rf (fun hb134 => ?_) (fun hb134 => ?_)
                 ·skip
                  refine sq6 ?_
                  exact HQ_segp (by repeat (first | exact trivial | refine ⟨rfl, ?_⟩)) (by grind)
                 ·skip
                  refine HL_guard_yes rf rf ?_
                  refine HL_fieldAddr rf f52_4 rf ?_
                  refine HL_guard_yes rf rf ?_
                  refine HL_load_one rf ty31 rf rdd ?_
                  refine HL_guard_yes rf rf ?_
                  refine HL_len_slice rf Tryz.underlying31 rf ?_
                  refine sq4 ?_
                  exact HQ_segp (by repeat (first | exact trivial | refine ⟨rfl, ?_⟩)) (by grind)
                ·intro c139 hs2
                 refine HL_segp 6 145 (fun c => c = false → ((t.size ≤ 1000 ∧ nums.length ≤ 100) ∧ texts.length ≤ 100) ∧ kids.length ≤ 100) ?_ ?_
                 ·skip
                  refine HL_move_b rf rf (fun hb140 => ?_) (fun hb140 => ?_)
                  ·skip
                   refine sq6 ?_
                   exact HQ_segp (by repeat (first | exact trivial | refine ⟨rfl, ?_⟩)) (by grind)
                  ·skip
                   refine HL_guard_yes rf rf ?_
                   refine HL_fieldAddr rf f52_5 rf ?_
                   refine HL_guard_yes rf rf ?_
                   refine HL_load_one rf ty50 rf rdd ?_
                   refine HL_guard_yes rf rf ?_
                   refine HL_len_slice rf Tryz.underlying50 rf ?_
                   refine sq4 ?_
                   exact HQ_segp (by repeat (first | exact trivial | refine ⟨rfl, ?_⟩)) (by grind)
                 ·intro c145 hs3
                  refine HL_segp 10 155 (fun c => c = false → (((t.size ≤ 1000 ∧ nums.length ≤ 100) ∧ texts.length ≤ 100) ∧ kids.length ≤ 100) ∧ (k = 1 → n ≤ 1)) ?_ ?_
                  ·skip
                   refine HL_move_b rf rf (fun hb146 => ?_) (fun hb146 => ?_)
                   ·skip
                    refine sq4 ?_
                    refine HL_guard_un rf rf rf ?_
                    refine HL_guard_un rf rf rf ?_
                    refine HL_guard_un rf rf rf ?_
                    refine sq3 ?_
                    exact HQ_segp (by repeat (first | exact trivial | refine ⟨rfl, ?_⟩)) (by grind)
                   ·skip
                    refine HL_guard_yes rf rf ?_
                    refine HL_fieldAddr rf f52_0 rf ?_
                    refine HL_guard_yes rf rf ?_
                    refine HL_load_one rf ty5 rf rdd ?_
                    refine sq3 ?_
                    refine HL_move_b rf rf (fun hb150 => ?_) (fun hb150 => ?_)
                    ·skip
                     refine HL_guard_yes rf rf ?_
                     refine HL_fieldAddr rf f52_1 rf ?_
                     refine HL_guard_yes rf rf ?_
                     refine HL_load_one rf ty48 rf rdd ?_
                     refine sq6 ?_
                     exact HQ_segp (by repeat (first | exact trivial | refine ⟨rfl, ?_⟩)) (by grind)
                    ·skip
                     refine sq7 ?_
                     exact HQ_segp (by repeat (first | exact trivial | refine ⟨rfl, ?_⟩)) (by grind)
                  ·intro c155 hs4
                   refine HL_nil ?_
                   refine HQ_then ?_
                   refine HC_cond rf (fun ht155 => ?_) (fun ht155 => ?_)
                   ·skip
                    refine sq6 ?_
                    refine HQ_then_ret ?_
                    refine hqr rf rf ?_
                    exact fun w hs => ⟨_, _, _, rfl, hs.drop ooo, Frag.le_refl _, _, false, rfl, rfl, by omega, by omega, fun h => by cases h⟩
                   ·obtain ⟨⟨⟨⟨ht1, ht2⟩, ht3⟩, ht4⟩, ht5⟩ := hs4 ht155
                    clear hs1 hs2 hs3 hs4
                    refine sq5 ?_
                    refine HL_fieldAddr rf f52_3 rf ?_
                    refine HL_load_one rf ty49 rf rdd ?_
                    refine HL_len_slice rf Tryz.underlying49 rf ?_
                    refine sq4 ?_
                    refine hcl (fun F' R' As' m => ∃ i : Nat, i ≤ nums.length ∧ (∀ x ∈ nums.take i, k = 5 → x ≤ 1) ∧ nums.length - i = m ∧ R' = R₁ ∧ F' = [(1, .pointer (some ⟨pl, 0, none⟩)), (2, .int .i64 deep), (3, .pointer (some ⟨b3, 0, none⟩)), (157, .slice q1 nums.length k1), (158, .int .i64 (nums.length : Int)), (159, .int .i64 ((i : Int)))] ∧ As' = blk b3 [.int .u8 k, .int .u64 n, .string t, .slice q1 nums.length k1, .slice q2 texts.length k2, .slice q3 kids.length k3, .slice q4 pairs.length k4] 52 :: blk pl [.int .i64 (L - 1)] 3 :: As) (blk b3 [.int .u8 k, .int .u64 n, .string t, .slice q1 nums.length k1, .slice q2 texts.length k2, .slice q3 kids.length k3, .slice q4 pairs.length k4] 52 :: blk pl [.int .i64 (L - 1)] 3 :: As) nums.length ⟨0, by omega, by simp, by omega, rfl, rfl, rfl⟩ ?_
                    rintro F' Ra As' m ⟨i, hi, hok1, rfl, rfl, rfl, rfl⟩
                    refine sq6 ?_
                    refine HC_cond rf (fun ht160 => ?_) (fun ht160 => ?_)
                    ·have hlt : i < nums.length := by simpa using ht160
                     obtain ⟨b, off, rfl, hrd⟩ := SlR.at h1 (i := i) (by simpa [numCells] using hlt)
                     simp only [numCells, List.getElem_map] at hrd
                     have hrd2 := hrd.mono hle1
                     refine sq6 ?_
                     refine HL_indexAddr rf Tryz.underlying49 ty48 rf rf hlt ?_
                     refine HL_load_one rf ty48 rf rdd ?_
                     refine sq5 ?_
                     refine HL_fieldAddr rf f52_0 rf ?_
                     refine HL_load_one rf ty5 rf rdd ?_
                     refine HL_eql_int rf rf rf ?_
                     refine HL_segp 4 169 (fun c => c = false → k = 5 → nums[i] ≤ 1) ?_ ?_
                     ·skip
                      refine HL_move_b rf rf (fun hb166 => ?_) (fun hb166 => ?_)
                      ·skip
                       refine sq6 ?_
                       exact HQ_segp (by repeat (first | exact trivial | refine ⟨rfl, ?_⟩)) (by grind)
                      ·skip
                       refine sq4 ?_
                       exact HQ_segp (by repeat (first | exact trivial | refine ⟨rfl, ?_⟩)) (by grind)
                     ·intro c169 hx1
                      refine HL_nil ?_
                      refine HQ_then ?_
                      refine HC_cond rf (fun ht169 => ?_) (fun ht169 => ?_)
                      ·skip
                       refine sq6 ?_
                       refine HQ_block_ret ?_
                       refine HQ_then_ret ?_
                       refine HQ_then_ret ?_
                       refine HQ_block_ret ?_
                       refine HQ_then_ret ?_
                       refine hqr rf rf ?_
                       exact fun w hs => ⟨_, _, _, rfl, hs.drop ooo, Frag.le_refl _, _, false, rfl, rfl, by omega, by omega, fun h => by cases h⟩
                      ·skip
                       refine HC_skip ?_
                       refine HQ_block ?_
                       refine sq2 ?_
                       refine HL_add rf rf rf (by omega) (by omega) ?_
                       refine sq2 ?_
                       refine hqr1 (nums.length - (i + 1)) ⟨i + 1, by omega, ?_, rfl, rfl, rfl, rfl⟩
                       intro x hx
                       rw [List.take_add_one, List.mem_append] at hx
                       rcases hx with hx | hx
                       ·exact hok1 x hx
                       ·simp [hlt] at hx; subst hx; exact hx1 ht169
                    ·have hge : i = nums.length := by simp at ht160; omega
                     subst hge
                     refine HC_exit ?_
                     refine sq2 ?_
                     refine HQ_block_same ?_
                     have hokA : ∀ x ∈ nums, k = 5 → x ≤ 1 := fun x hx => hok1 x (by simpa using hx)
                     clear hok1
                     refine sq4 ?_
                     refine HL_fieldAddr rf f52_4 rf ?_
                     refine HL_load_one rf ty31 rf rdd ?_
                     refine HL_len_slice rf Tryz.underlying31 rf ?_
                     refine sq4 ?_
                     refine hcl (fun F' R' As' m => ∃ i : Nat, i ≤ texts.length ∧ (∀ s ∈ texts.take i, s.size ≤ 1000) ∧ texts.length - i = m ∧ R' = Ra ∧ F' = [(1, .pointer (some ⟨pl, 0, none⟩)), (2, .int .i64 deep), (3, .pointer (some ⟨b3, 0, none⟩)), (172, .slice q2 texts.length k2), (173, .int .i64 (texts.length : Int)), (174, .int .i64 ((i : Int)))] ∧ As' = blk b3 [.int .u8 k, .int .u64 n, .string t, .slice q1 nums.length k1, .slice q2 texts.length k2, .slice q3 kids.length k3, .slice q4 pairs.length k4] 52 :: blk pl [.int .i64 (L - 1)] 3 :: As) (blk b3 [.int .u8 k, .int .u64 n, .string t, .slice q1 nums.length k1, .slice q2 texts.length k2, .slice q3 kids.length k3, .slice q4 pairs.length k4] 52 :: blk pl [.int .i64 (L - 1)] 3 :: As) texts.length ⟨0, by omega, by simp, by omega, rfl, rfl, rfl⟩ ?_
                     rintro F' Rb As' m ⟨i, hi, hok2, rfl, rfl, rfl, rfl⟩
                     refine sq6 ?_
                     refine HC_cond rf (fun ht175 => ?_) (fun ht175 => ?_)
                     ·have hlt : i < texts.length := by simpa using ht175
                      obtain ⟨b, off, rfl, hrd⟩ := SlR.at h2 (i := i) (by simpa [txtCells] using hlt)
                      simp only [txtCells, List.getElem_map] at hrd
                      have hrd2 := hrd.mono hle1
                      refine sq6 ?_
                      refine HL_indexAddr rf Tryz.underlying31 ty9 rf rf hlt ?_
                      refine HL_load_one rf ty9 rf rdd ?_
                      refine sq6 ?_
                      refine HL_len_string rf Tryz.underlying9 rf ?_
                      refine sq3 ?_
                      refine HC_cond rf (fun ht180 => ?_) (fun ht180 => ?_)
                      ·skip
                       refine sq6 ?_
                       refine HQ_block_ret ?_
                       refine HQ_then_ret ?_
                       refine HQ_then_ret ?_
                       refine HQ_block_ret ?_
                       refine HQ_then_ret ?_
                       refine hqr rf rf ?_
                       exact fun w hs => ⟨_, _, _, rfl, hs.drop ooo, Frag.le_refl _, _, false, rfl, rfl, by omega, by omega, fun h => by cases h⟩
                      ·skip
                       refine HC_skip ?_
                       refine HQ_block ?_
                       refine sq2 ?_
                       refine HL_add rf rf rf (by omega) (by omega) ?_
                       refine sq2 ?_
                       refine hqr1 (texts.length - (i + 1)) ⟨i + 1, by omega, ?_, rfl, rfl, rfl, rfl⟩
                       intro x hx
                       rw [List.take_add_one, List.mem_append] at hx
                       rcases hx with hx | hx
                       ·exact hok2 x hx
                       ·simp [hlt] at hx; subst hx; simp at ht180; omega
                     ·have hge : i = texts.length := by simp at ht175; omega
                      subst hge
                      refine HC_exit ?_
                      refine sq2 ?_
                      refine HQ_block_same ?_
                      have hokB : ∀ s ∈ texts, s.size ≤ 1000 := fun x hx => hok2 x (by simpa using hx)
                      clear hok2
                      refine sq4 ?_
                      refine HL_fieldAddr rf f52_5 rf ?_
                      refine HL_load_one rf ty50 rf rdd ?_
                      refine HL_len_slice rf Tryz.underlying50 rf ?_
                      refine sq4 ?_
                      refine hcl (fun F' R' As' m => ∃ (i : Nat) (L' : Int), i ≤ kids.length ∧ 0 ≤ L' ∧ L' ≤ L - 1 ∧ (L' + (cntL (kids.take i) : Int) ≤ L - 1) ∧ (∀ v ∈ kids.take i, Ok v) ∧ kids.length - i = m ∧ Frag.le Rb R' ∧ F' = [(1, .pointer (some ⟨pl, 0, none⟩)), (2, .int .i64 deep), (3, .pointer (some ⟨b3, 0, none⟩)), (183, .slice q3 kids.length k3), (184, .int .i64 (kids.length : Int)), (185, .int .i64 ((i : Int)))] ∧ As' = blk b3 [.int .u8 k, .int .u64 n, .string t, .slice q1 nums.length k1, .slice q2 texts.length k2, .slice q3 kids.length k3, .slice q4 pairs.length k4] 52 :: blk pl [.int .i64 L'] 3 :: As) (blk b3 [.int .u8 k, .int .u64 n, .string t, .slice q1 nums.length k1, .slice q2 texts.length k2, .slice q3 kids.length k3, .slice q4 pairs.length k4] 52 :: blk pl [.int .i64 (L - 1)] 3 :: As) kids.length ⟨0, L - 1, by omega, hz.1, by omega, by simp [cntL], by simp, by omega, Frag.le_refl _, rfl, rfl⟩ ?_
                      rintro F' R₂ As' m ⟨i, L', hi, hL3, hL4, hcn, hok3, rfl, hle2, rfl, rfl⟩
                      refine sq6 ?_
                      refine HC_cond rf (fun ht186 => ?_) (fun ht186 => ?_)
                      ·have hlt : i < kids.length := by simpa using ht186
                       obtain ⟨b, off, ce, rfl, hrd, hrepe, hcall⟩ := hkids i hlt
                       obtain ⟨c0, c1, c2, c3, c4, c5, c6, rfl, hones⟩ := hrepe.seven
                       have hrd2 := (hrd.mono hle1).mono hle2
                       refine sq6 ?_
                       refine HL_indexAddr rf Tryz.underlying50 ty52 rf rf hlt ?_
                       refine HL_load_agg rf ty52 rf (vs := [_, _, _, _, _, _, _]) rdd ?_
                       refine HL_alloc rf z52 rf (fun b14 => ?_)
                       refine HL_store (vs := [_, _, _, _, _, _, _]) ty52 rf rf rf hones sss rf ?_
                       refine sq4 ?_
                       refine HL_load_agg rf ty52 rf (vs := [c0, c1, c2, c3, c4, c5, c6]) (.own mmm rf) ?_
                       refine sq2 ?_
                       refine HL_sub' rf rf rf (by omega) (by omega) ?_
                       refine HL_perm (blk pl [.int .i64 L'] 3 :: blk b14 [c0, c1, c2, c3, c4, c5, c6] 52 :: blk b3 [.int .u8 k, .int .u64 n, .string t, .slice q1 nums.length k1, .slice q2 texts.length k2, .slice _ kids.length k3, .slice q4 pairs.length k4] 52 :: As) (by first | exact List.Perm.refl _ | exact List.Perm.swap _ _ _ | exact ((List.Perm.swap _ _ _).trans (List.Perm.cons _ (List.Perm.swap _ _ _))) | exact ((List.Perm.cons _ (List.Perm.swap _ _ _)).trans (List.Perm.swap _ _ _)) | exact ((List.Perm.cons _ (List.Perm.swap _ _ _)).trans ((List.Perm.swap _ _ _).trans (List.Perm.cons _ (List.Perm.swap _ _ _))))) ?_
                       refine HL_call rf is109 rf (hcall L' (deep - 1) E R₂ _ (Frag.le_trans hle1 hle2) (by omega) (by omega) hL3 (by omega)) ?_
                       rintro r R₃ As' ⟨hle3, L'', c, rfl, rfl, h3, h4, hc⟩
                       refine sq3 ?_
                       refine HC_cond rf (fun ht194 => ?_) (fun ht194 => ?_)
                       ·skip
                        refine sq6 ?_
                        refine HQ_block_ret ?_
                        refine HQ_then_ret ?_
                        refine HQ_then_ret ?_
                        refine HQ_block_ret ?_
                        refine HQ_then_ret ?_
                        refine hqr rf rf ?_
                        exact fun w hs => ⟨_, _, _, rfl, (hs.drop (.there .here)).drop (.there .here), Frag.le_trans hle2 hle3, L'', false, rfl, rfl, by omega, by omega, fun h => by cases h⟩
                       ·have hg := hc (by simpa using ht194)
                        refine HC_skip ?_
                        refine HQ_block ?_
                        refine sq2 ?_
                        refine HL_add rf rf rf (by omega) (by omega) ?_
                        refine sq2 ?_
                        refine HQ_perm (blk b3 [.int .u8 k, .int .u64 n, .string t, .slice q1 nums.length k1, .slice q2 texts.length k2, .slice _ kids.length k3, .slice q4 pairs.length k4] 52 :: blk b14 [c0, c1, c2, c3, c4, c5, c6] 52 :: blk pl [.int .i64 L''] 3 :: As) (by first | exact List.Perm.refl _ | exact List.Perm.swap _ _ _ | exact ((List.Perm.swap _ _ _).trans (List.Perm.cons _ (List.Perm.swap _ _ _))) | exact ((List.Perm.cons _ (List.Perm.swap _ _ _)).trans (List.Perm.swap _ _ _)) | exact ((List.Perm.cons _ (List.Perm.swap _ _ _)).trans ((List.Perm.swap _ _ _).trans (List.Perm.cons _ (List.Perm.swap _ _ _))))) ?_
                        refine HQ_drop (.there .here) ?_
                        refine hqr1 (kids.length - (i + 1)) ⟨i + 1, L'', by omega, hg.1, by omega, (by have h8 := cntL_take hlt; have h9 := hg.2.2; omega), ?_, rfl, Frag.le_trans hle2 hle3, rfl, rfl⟩
                        intro q hq
                        rw [List.take_add_one, List.mem_append] at hq
                        rcases hq with hq | hq
                        ·exact hok3 q hq
                        ·simp [hlt] at hq; subst hq; exact hg.2.1
                      ·have hge : i = kids.length := by simp at ht186; omega
                       subst hge
                       refine HC_exit ?_
                       refine sq2 ?_
                       refine HQ_block_same ?_
                       refine sq3 ?_
                       refine HL_fieldAddr rf f52_6 rf ?_
                       refine HL_load_one rf ty22 rf rdd ?_
                       refine sq2 ?_
                       refine HL_sub' rf rf rf (by omega) (by omega) ?_
                       refine HL_perm (blk pl [.int .i64 L'] 3 :: blk b3 [.int .u8 k, .int .u64 n, .string t, .slice q1 nums.length k1, .slice q2 texts.length k2, .slice q3 kids.length k3, .slice q4 pairs.length k4] 52 :: As) (.swap _ _ _) ?_
                       refine HL_call rf is48 rf (pClean_of hpairs L' (deep - 1) E R₂ _ (Frag.le_trans hle1 hle2) (by omega) (by omega) hL3 (by omega)) ?_
                       rintro r R₃ As' ⟨hle3, L'', c, rfl, rfl, h3, h4, hc⟩
                       refine sq4 ?_
                       refine hqr rf rf ?_
                       exact fun w hs => ⟨_, _, _, rfl, hs.drop (.there .here), Frag.le_trans hle2 hle3, L'', c, rfl, rfl, by omega, by omega, fun h => ⟨(hc h).1, .mk ⟨hwt.1.1, hz.2.2⟩ hwt.2.1 ht1 ht2 hwt.2.2 ht3 hokB ht4 (hc h).2.1.1 (fun v hv => hok3 v (by simpa using hv)) (fun p hp => ((hc h).2.1.2 p hp).1) (fun p hp => ((hc h).2.1.2 p hp).2) hp.1.1.1.1.1 hp.1.1.1.1.2 (hp.1.1.1.2.imp id List.eq_nil_of_length_eq_zero) (hp.1.1.2.imp id List.eq_nil_of_length_eq_zero) (hp.1.2.imp id List.eq_nil_of_length_eq_zero) (hp.2.imp id List.eq_nil_of_length_eq_zero) ht5 (fun h5 x hx => hokA x hx h5), by have h9 := (hc h).2.2; have h8 : L' + (cntL kids : Int) ≤ L - 1 := (by simpa using hcn); rw [cntV_eq]; omega⟩⟩
theorem vClean {R : Frag} {pl : Nat} {v : V} {cs : List Value} (h : RepV R v cs) (hwt : Wt v) : VC R pl v cs := by
 induction h with
 | @mk k n t nums texts kids pairs s1 s2 s3 s4 es ps h1 h2 h3 h4 h5 h6 h7 h8 ih5 ih8 =>
  obtain ⟨q1, c1, rfl, h1'⟩ := id h1
  obtain ⟨q2, c2, rfl, h2'⟩ := id h2
  obtain ⟨q3, c3, rfl⟩ := RepL.slice (l := kids) ⟨es, h3, h4, h5⟩
  obtain ⟨q4, c4, rfl⟩ := RepP.slice (l := pairs) ⟨ps, h6, h7, h8⟩
  have e1 : (numCells nums).length = nums.length := by simp [numCells]
  have e2 : (txtCells texts).length = texts.length := by simp [txtCells]
  rw [e1] at h1 ⊢
  rw [e2] at h2 ⊢
  cases hwt with
  | mk hk hn hnums hwk hwp =>
   refine vClean_of ⟨hk, hn, hnums⟩ h1 h2 (fun i hi => ?_) (fun i hi => ?_)
   ·obtain ⟨b, off, hb, hg⟩ := SlR.at h3 (by omega : i < es.length)
    exact ⟨b, off, es[i], hb, hg, h5 i _ _ (List.getElem?_eq_getElem (by omega)) (List.getElem?_eq_getElem hi), ih5 i _ _ (List.getElem?_eq_getElem (by omega)) (List.getElem?_eq_getElem hi) (hwk _ (List.getElem_mem hi))⟩
   ·have hl8 : i < (prCells pairs ps).length := by rw [prCells_length h7]; exact hi
    obtain ⟨b, off, hb, hg⟩ := SlR.at h6 hl8
    have hgc := prCells_get (ps := pairs) (es := ps) (i := i) (List.getElem?_eq_getElem hi) (List.getElem?_eq_getElem (by omega))
    rw [List.getElem?_eq_getElem hl8] at hgc
    injection hgc with hgc
    rw [hgc] at hg
    exact ⟨b, off, ps[i], hb, hg, h8 i _ _ (List.getElem?_eq_getElem (by omega)) (List.getElem?_eq_getElem hi), ih8 i _ _ (List.getElem?_eq_getElem (by omega)) (List.getElem?_eq_getElem hi) (hwp _ (List.getElem_mem hi))⟩
theorem pairsClean {R : Frag} {v : Value} {ps : List Pr} (h : RepP R v ps) (hwt : WtP ps) : Pure Tryz.prog 14 [v] R (fun _ r => ∃ c, r = .bool c ∧ (c = true → OkP ps ∧ cntP ps ≤ 300)) := by
 intro E As
 refine ten Tryz.func14 ?_
 refine sq7 ?_
 refine HL_alloc rf z3 rf (fun b3 => ?_)
 refine HL_store (vs := [_]) ty3 rf rf rf rf sss rf ?_
 refine sq5 ?_
 obtain ⟨q, cap, rfl⟩ := h.slice
 refine HL_call rf is48 rf (pClean_of (R := R) (pl := b3) (fun i hi => by
  obtain ⟨b, off, e, h1, h2, h3⟩ := h.get hi
  exact ⟨b, off, e, h1, h2, h3, vClean h3 (hwt _ (List.getElem_mem hi))⟩) 300 6 E R As (Frag.le_refl R) (by omega) (by omega) (by omega) (by omega)) ?_
 rintro r R₃ As' ⟨hle3, L'', c, rfl, rfl, h3, h4, hc⟩
 refine sq4 ?_
 refine hqr rf rf ?_
 exact fun w hs => ret_pure hs ttt hle3 ⟨c, rfl, fun h => ⟨(hc h).2.1, by have h9 := hc h; omega⟩⟩
end Go.Sx

/-! Arguments of the laws as data: what reads as a value or as a list of attributes lies in memory as such; and it reads behind a call as it did. -/
namespace Go.Sx
open Go Go.Proofs Go.RowKit Go.ChangeShapes

def frag (W : World) : Frag := fun b => W.heap[b]?
theorem St.all (W : World) : St ⟨W.os, W.tape, W.output⟩ W (frag W) [] :=
  ⟨rfl, rfl, rfl, fun _ _ h => h, fun _ _ h => by simp at h, fun _ _ h => by simp at h, by simp⟩
/-- A call that leaves owned memory alone, from a world on. -/
theorem Pure.calls {P : Program} {f : FuncId} {vs : List Value} {W : World} {Res : Frag → Value → Prop} (h : Pure P f vs (frag W) Res) :
    Calls P f vs.toArray W fun e W' => ∃ v R', e = .returned v ∧ Below W.heap.size W W' ∧ Res R' v := by
  refine (h _ [] W (St.all W)).mono ?_
  rintro e W' ⟨v, R', As', rfl, hs, _, hle, hr⟩
  have hb : ∀ k, k < W.heap.size → W'.heap[k]? = W.heap[k]? := fun k hk => by
    have h1 : frag W k = some W.heap[k] := by simp [frag, hk]
    rw [hs.sees k _ (hle k _ h1)]
    simp [hk]
  refine ⟨v, R', rfl, ⟨hs.os, hs.tape, hs.output, ?_, hb⟩, hr⟩
  rcases Nat.eq_zero_or_pos W.heap.size with h0 | h0
  · omega
  · have h1 := hb (W.heap.size - 1) (by omega)
    have h2 : W.heap[W.heap.size - 1]? = some (W.heap[W.heap.size - 1]'(by omega)) := Array.getElem?_eq_getElem _
    rw [h2] at h1
    have := (Array.getElem?_eq_some_iff.1 h1).1
    omega

variable {H : Type} {enc : TypeId × Value → H} {P : Program} {W : World} {spare : Nat → Bool} {held : Bool}

theorem cells_rd {a : Addr} {sz : Nat} {vs : List Value} (h : W.cells? 0 a sz = some vs) (hs : 0 < sz) : a.spot = none ∧ RdR (frag W) a.block a.off sz vs := by
  unfold World.cells? at h
  rw [if_pos (Nat.zero_le _)] at h
  have hl := mapM_some_length h
  have hg := mapM_some_get h
  rw [List.length_range] at hl
  have h0 : ∀ i, i < sz → W.cell? (a.add i) = vs[i]? := fun i hi => hg i i (by simp [hi])
  have hc0 := h0 0 hs
  rw [show a.add 0 = a by simp [Addr.add]] at hc0
  have hv0 : vs[0]? = some vs[0] := List.getElem?_eq_getElem _
  rw [hv0] at hc0
  unfold World.cell? at hc0
  cases hb : W.heap[a.block]? with
  | none => rw [hb] at hc0; cases hc0
  | some o =>
    rw [hb] at hc0
    cases o with
    | cells c T fr =>
      simp only at hc0
      have hsp : a.spot = none := by
        cases hsp : a.spot with
        | none => rfl
        | some x => rw [hsp] at hc0; simp at hc0
      refine ⟨hsp, c.toList, T, fr, hb, ?_⟩
      have hcell : ∀ i, i < sz → c[a.off + i]? = vs[i]? := fun i hi => by
        have h1 := h0 i hi
        unfold World.cell? at h1
        have hblk : (a.add i).block = a.block := by unfold Addr.add; split <;> rfl
        have hoff : (a.add i).off = a.off + i := by unfold Addr.add; split <;> simp_all
        have hspi : (a.add i).spot = none := by unfold Addr.add; split <;> simp_all
        rw [hblk, hb, hoff, hspi] at h1
        simpa using h1
      have hlast := hcell (sz - 1) (by omega)
      have hvl : vs[sz - 1]? = some (vs[sz - 1]'(by omega)) := List.getElem?_eq_getElem _
      rw [hvl] at hlast
      have hsz := (Array.getElem?_eq_some_iff.1 hlast).1
      rw [cut_eq]
      refine ⟨by simp; omega, ?_⟩
      apply List.ext_getElem?
      intro i
      rw [List.getElem?_take]
      split
      · rename_i hi
        rw [List.getElem?_drop, ← hcell i hi]
        simp
      · rw [List.getElem?_eq_none (by omega)]
    | _ => cases hc0

/-- A slice that is read: its elements' cells. -/
theorem sl_of {t e : TypeId} {fuel : Nat} {cs : List Value} {x : DataW H × List MemPlace} (ht : P.underlying t = some (.slice e)) (hsz : 0 < P.cellsOf e) (h : DataW.trod enc P W 0 spare held (fuel + 1) t cs = some x) :
    ∃ s es, cs = [s] ∧ SlR (frag W) (P.cellsOf e) s es ∧ ∀ c ∈ es, ∃ y, DataW.trod enc P W 0 spare held fuel e c = some y := by
  rcases DataW.trod_slice ht h with ⟨rfl, _⟩ | ⟨a, len, cap, elems, rest, n, hn, rfl, _, _, _, _, hlen, hel, _⟩
  · exact ⟨_, [], rfl, SlR.nil _ _ _ _, by simp⟩
  · obtain rfl : fuel = n := by omega
    have hex : ∀ i, i < len → ∃ c, W.cells? 0 (a.add (i * P.cellsOf e)) (P.cellsOf e) = some c ∧ ∃ y, DataW.trod enc P W 0 spare held fuel e c = some y := fun i hi => by
      have h1 := hel i hi
      have h2 : elems[i]? = some (elems[i]'(by omega)) := List.getElem?_eq_getElem _
      rw [h2] at h1
      cases hc : W.cells? 0 (a.add (i * P.cellsOf e)) (P.cellsOf e) with
      | none => rw [hc] at h1; cases h1
      | some c => rw [hc] at h1; exact ⟨c, rfl, _, h1⟩
    obtain ⟨es, hes, hall⟩ : ∃ es : List (List Value), es.length = len ∧ ∀ i c, es[i]? = some c → W.cells? 0 (a.add (i * P.cellsOf e)) (P.cellsOf e) = some c ∧ ∃ y, DataW.trod enc P W 0 spare held fuel e c = some y := by
      refine ⟨List.ofFn (n := len) fun i => (hex i.1 i.2).choose, by simp, fun i c hc => ?_⟩
      have hi : i < len := by
        have := (List.getElem?_eq_some_iff.1 hc).1
        simpa using this
      rw [List.getElem?_ofFn, dif_pos hi] at hc
      injection hc with hc
      rw [← hc]
      exact (hex i hi).choose_spec
    refine ⟨_, es, rfl, ⟨some a, cap, by rw [hes], fun hne => ?_⟩, fun c hc => ?_⟩
    · have h0 : 0 < es.length := List.length_pos_iff.2 hne
      have h1 := (hall 0 es[0] (by simp [h0])).1
      obtain ⟨hsp, hrd⟩ := cells_rd h1 hsz
      rw [show a.add (0 * P.cellsOf e) = a by simp [Addr.add]] at hsp hrd
      refine ⟨a.block, a.off, ?_, fun i vs hi => ?_⟩
      · cases a; simp at hsp; subst hsp; rfl
      · obtain ⟨_, hr⟩ := cells_rd (hall i vs hi).1 hsz
        have hblk : (a.add (i * P.cellsOf e)).block = a.block := by unfold Addr.add; split <;> rfl
        have hoff : (a.add (i * P.cellsOf e)).off = a.off + i * P.cellsOf e := by unfold Addr.add; split <;> simp_all
        rw [hblk, hoff] at hr
        exact hr
    · obtain ⟨i, hi, he⟩ := List.getElem_of_mem hc
      exact (hall i c (by rw [← he]; simp [hi])).2

theorem trod_fuel {t : TypeId} {fuel : Nat} {cs : List Value} {x : DataW H × List MemPlace} (h : DataW.trod enc P W 0 spare held fuel t cs = some x) : ∃ n, fuel = n + 1 := by
  cases fuel with
  | zero => simp [DataW.trod] at h
  | succ n => exact ⟨n, rfl⟩
theorem int_of {t : TypeId} {k : IntKind} {fuel : Nat} {cs : List Value} {x : DataW H × List MemPlace} (ht : P.underlying t = some (.int k)) (h : DataW.trod enc P W 0 spare held fuel t cs = some x) : ∃ n, cs = [.int k n] ∧ (Lit.int k n).wf = true := by
  obtain ⟨n, rfl⟩ := trod_fuel h
  unfold DataW.trod at h
  rw [ht] at h
  split at h <;> simp_all
theorem text_of {t : TypeId} {fuel : Nat} {cs : List Value} {x : DataW H × List MemPlace} (ht : P.underlying t = some .string) (h : DataW.trod enc P W 0 spare held fuel t cs = some x) : ∃ s, cs = [.string s] := by
  obtain ⟨n, rfl⟩ := trod_fuel h
  unfold DataW.trod at h
  rw [ht] at h
  split at h <;> simp_all

theorem all_map {α β : Type} {p : β → Prop} {f : β → α} {es : List α} (h : ∀ c ∈ es, ∃ n, c = f n ∧ p n) : ∃ ns : List β, es = ns.map f ∧ ∀ n ∈ ns, p n := by
  induction es with
  | nil => exact ⟨[], rfl, by simp⟩
  | cons c t ih =>
    obtain ⟨n, rfl, hn⟩ := h c (by simp)
    obtain ⟨ns, rfl, hns⟩ := ih fun c hc => h c (by simp [hc])
    exact ⟨n :: ns, rfl, by simpa using ⟨hn, hns⟩⟩
theorem all_rep {α β : Type} {p : β → α → Prop} {es : List α} (h : ∀ c ∈ es, ∃ n, p n c) : ∃ ns : List β, es.length = ns.length ∧ ∀ (i : Nat) c n, es[i]? = some c → ns[i]? = some n → p n c := by
  induction es with
  | nil => exact ⟨[], rfl, by simp⟩
  | cons c t ih =>
    obtain ⟨n, hn⟩ := h c (by simp)
    obtain ⟨ns, h1, h2⟩ := ih fun c hc => h c (by simp [hc])
    refine ⟨n :: ns, by simp [h1], fun i c' n' hc hn' => ?_⟩
    cases i with
    | zero => simp at hc hn'; subst hc hn'; exact hn
    | succ i => exact h2 i c' n' (by simpa using hc) (by simpa using hn')

theorem c52 : Tryz.prog.cellsOf 52 = 7 := by kernel_rfl
theorem c54 : Tryz.prog.cellsOf 54 = 8 := by kernel_rfl
theorem c48 : Tryz.prog.cellsOf 48 = 1 := by kernel_rfl
theorem c9 : Tryz.prog.cellsOf 9 = 1 := by kernel_rfl
theorem c5 : Tryz.prog.cellsOf 5 = 1 := by kernel_rfl
theorem c49 : Tryz.prog.cellsOf 49 = 1 := by kernel_rfl
theorem c31 : Tryz.prog.cellsOf 31 = 1 := by kernel_rfl
theorem c50 : Tryz.prog.cellsOf 50 = 1 := by kernel_rfl
theorem c22 : Tryz.prog.cellsOf 22 = 1 := by kernel_rfl

theorem seven_of {cs : List Value} (h : cs.length = 7) : ∃ c0 c1 c2 c3 c4 c5 c6, cs = [c0, c1, c2, c3, c4, c5, c6] := by
  match cs, h with
  | [a, b, c, d, e, f, g], _ => exact ⟨a, b, c, d, e, f, g, rfl⟩
theorem eight_of {cs : List Value} (h : cs.length = 8) : ∃ c t, cs = c :: t ∧ t.length = 7 := by
  match cs, h with
  | c :: t, h => exact ⟨c, t, rfl, by simpa using h⟩

/-- What reads as a value is one. -/
theorem value_of : ∀ (fuel : Nat) (cs : List Value) (x : DataW H × List MemPlace), DataW.trod enc Tryz.prog W 0 spare held fuel 52 cs = some x → ∃ v, RepV (frag W) v cs ∧ Wt v := by
  intro fuel
  induction fuel using Nat.strongRecOn with
  | ind fuel ih =>
    intro cs x h
    obtain ⟨xs, n, rfl, _, hlen, hxs, hf⟩ := DataW.trod_struct Tryz.underlying52 h
    rw [c52] at hlen
    obtain ⟨c0, c1, c2, c3, c4, c5, c6, rfl⟩ := seven_of hlen
    have hxl : xs.length = 7 := hxs
    have hx : ∀ i, i < 7 → ∃ y, xs[i]? = some y := fun i hi => ⟨_, List.getElem?_eq_getElem (by omega)⟩
    obtain ⟨y0, e0⟩ := hx 0 (by omega)
    obtain ⟨y1, e1⟩ := hx 1 (by omega)
    obtain ⟨y2, e2⟩ := hx 2 (by omega)
    obtain ⟨y3, e3⟩ := hx 3 (by omega)
    obtain ⟨y4, e4⟩ := hx 4 (by omega)
    obtain ⟨y5, e5⟩ := hx 5 (by omega)
    obtain ⟨y6, e6⟩ := hx 6 (by omega)
    have f0 : DataW.trod enc Tryz.prog W 0 spare held n 5 [c0] = some y0 := by have := hf 0 _ rfl; rw [e0] at this; simpa [Sx.c5] using this
    have f1 : DataW.trod enc Tryz.prog W 0 spare held n 48 [c1] = some y1 := by have := hf 1 _ rfl; rw [e1] at this; simpa [c48] using this
    have f2 : DataW.trod enc Tryz.prog W 0 spare held n 9 [c2] = some y2 := by have := hf 2 _ rfl; rw [e2] at this; simpa [c9] using this
    have f3 : DataW.trod enc Tryz.prog W 0 spare held n 49 [c3] = some y3 := by have := hf 3 _ rfl; rw [e3] at this; simpa [c49] using this
    have f4 : DataW.trod enc Tryz.prog W 0 spare held n 31 [c4] = some y4 := by have := hf 4 _ rfl; rw [e4] at this; simpa [c31] using this
    have f5 : DataW.trod enc Tryz.prog W 0 spare held n 50 [c5] = some y5 := by have := hf 5 _ rfl; rw [e5] at this; simpa [c50] using this
    have f6 : DataW.trod enc Tryz.prog W 0 spare held n 22 [c6] = some y6 := by have := hf 6 _ rfl; rw [e6] at this; simpa [c22] using this
    obtain ⟨k, hk, wk⟩ := int_of Tryz.underlying5 f0
    obtain ⟨m, hm, wm⟩ := int_of Tryz.underlying48 f1
    obtain ⟨t, ht⟩ := text_of Tryz.underlying9 f2
    injection hk with hk; subst hk
    injection hm with hm; subst hm
    injection ht with ht; subst ht
    obtain ⟨n', rfl⟩ := trod_fuel f3
    obtain ⟨s3, es3, h3, hs3, ha3⟩ := sl_of Tryz.underlying49 (by rw [c48]; omega) f3
    obtain ⟨s4, es4, h4, hs4, ha4⟩ := sl_of Tryz.underlying31 (by rw [c9]; omega) f4
    obtain ⟨s5, es5, h5, hs5, ha5⟩ := sl_of Tryz.underlying50 (by rw [c52]; omega) f5
    obtain ⟨s6, es6, h6, hs6, ha6⟩ := sl_of Tryz.underlying22 (by rw [c54]; omega) f6
    injection h3 with h3; subst h3
    injection h4 with h4; subst h4
    injection h5 with h5; subst h5
    injection h6 with h6; subst h6
    rw [c48] at hs3
    rw [c9] at hs4
    rw [c52] at hs5
    rw [c54] at hs6
    obtain ⟨nums, rfl, hnums⟩ := all_map (f := fun n => [Value.int .u64 n]) (p := fun n => 0 ≤ n ∧ n ≤ 18446744073709551615) (es := es3) fun c hc => by
      obtain ⟨y, hy⟩ := ha3 c hc
      obtain ⟨z, rfl, hz⟩ := int_of Tryz.underlying48 hy
      exact ⟨z, rfl, bounds_u64 hz⟩
    obtain ⟨texts, rfl, _⟩ := all_map (f := fun s => [Value.string s]) (p := fun _ => True) (es := es4) fun c hc => by
      obtain ⟨y, hy⟩ := ha4 c hc
      obtain ⟨z, rfl⟩ := text_of Tryz.underlying9 hy
      exact ⟨z, rfl, trivial⟩
    obtain ⟨kids, hkl, hkids⟩ := all_rep (p := fun v c => RepV (frag W) v c ∧ Wt v) (es := es5) fun c hc => by
      obtain ⟨y, hy⟩ := ha5 c hc
      exact ih n' (by omega) c y hy
    obtain ⟨prs, hpl, hprs⟩ := all_rep (p := fun (q : Pr × List Value) c => c = .string q.1.1 :: q.2 ∧ RepV (frag W) q.1.2 q.2 ∧ Wt q.1.2) (es := es6) fun c hc => by
      obtain ⟨y, hy⟩ := ha6 c hc
      obtain ⟨xs, n2, rfl, _, hlen, hxs, hf⟩ := DataW.trod_struct Tryz.underlying54 hy
      rw [c54] at hlen
      obtain ⟨c, t, rfl, ht⟩ := eight_of hlen
      have hxl : xs.length = 2 := hxs
      have f0 : DataW.trod enc Tryz.prog W 0 spare held n2 9 [c] = some (xs[0]'(by omega)) := by
        have := hf 0 _ rfl
        rw [List.getElem?_eq_getElem (by omega)] at this
        simpa [c9] using this
      have f1 : DataW.trod enc Tryz.prog W 0 spare held n2 52 t = some (xs[1]'(by omega)) := by
        have := hf 1 _ rfl
        rw [List.getElem?_eq_getElem (by omega)] at this
        simpa [c52, List.take_of_length_le (Nat.le_of_eq ht)] using this
      obtain ⟨s, hs⟩ := text_of Tryz.underlying9 f0
      injection hs with hs
      subst hs
      obtain ⟨v, hv⟩ := ih n2 (by omega) t _ f1
      exact ⟨((s, v), t), rfl, hv⟩
    have hkm : ∀ (i : Nat) v, kids[i]? = some v → ∃ e, es5[i]? = some e := fun i v hv => by
      have := (List.getElem?_eq_some_iff.1 hv).1
      exact ⟨_, List.getElem?_eq_getElem (by omega)⟩
    have hpm : ∀ (i : Nat) q, prs[i]? = some q → ∃ e, es6[i]? = some e := fun i v hv => by
      have := (List.getElem?_eq_some_iff.1 hv).1
      exact ⟨_, List.getElem?_eq_getElem (by omega)⟩
    have hes6 : es6 = prCells (prs.map (·.1)) (prs.map (·.2)) := by
      apply List.ext_getElem?
      intro i
      cases hq : prs[i]? with
      | none =>
        rw [List.getElem?_eq_none (by have := List.getElem?_eq_none_iff.1 hq; omega), List.getElem?_eq_none]
        have := List.getElem?_eq_none_iff.1 hq
        simp [prCells]
        omega
      | some q =>
        obtain ⟨e, he⟩ := hpm i q hq
        rw [he, (hprs i e q he hq).1, prCells_get (p := q.1) (e := q.2) (by simp [hq]) (by simp [hq])]
    refine ⟨.mk k m t nums texts kids (prs.map (·.1)), .mk (ps := prs.map (·.2)) hs3 hs4 hs5 hkl (fun i e v he hv => (hkids i e v he hv).1) ?_ (by simp) (fun i e p he hp => ?_),
      .mk (bounds_u8 wk) (bounds_u64 wm) hnums (fun v hv => ?_) (fun p hp => ?_)⟩
    · rw [← hes6]
      exact hs6
    · cases hq : prs[i]? with
      | none => simp [hq] at he
      | some q =>
        simp [hq] at he hp
        subst he hp
        obtain ⟨e, he⟩ := hpm i q hq
        exact (hprs i e q he hq).2.1
    · obtain ⟨i, hi, he⟩ := List.getElem_of_mem hv
      have hq : kids[i]? = some v := by rw [← he]; simp [hi]
      obtain ⟨e, he⟩ := hkm i v hq
      exact (hkids i e v he hq).2
    · obtain ⟨q, hq, rfl⟩ := List.mem_map.1 hp
      obtain ⟨i, hi, he⟩ := List.getElem_of_mem hq
      have hq : prs[i]? = some q := by rw [← he]; simp [hi]
      obtain ⟨e, he⟩ := hpm i q hq
      exact (hprs i e q he hq).2.2

/-- What reads as a list of attributes is one. -/
theorem pairs_of {fuel : Nat} {cs : List Value} {x : DataW H × List MemPlace} (h : DataW.trod enc Tryz.prog W 0 spare held fuel 22 cs = some x) : ∃ s ps, cs = [s] ∧ RepP (frag W) s ps ∧ WtP ps := by
  obtain ⟨n', rfl⟩ := trod_fuel h
  obtain ⟨s6, es6, h6, hs6, ha6⟩ := sl_of Tryz.underlying22 (by rw [c54]; omega) h
  rw [c54] at hs6
  obtain ⟨prs, hpl, hprs⟩ := all_rep (p := fun (q : Pr × List Value) c => c = .string q.1.1 :: q.2 ∧ RepV (frag W) q.1.2 q.2 ∧ Wt q.1.2) (es := es6) fun c hc => by
    obtain ⟨y, hy⟩ := ha6 c hc
    obtain ⟨xs, n2, rfl, _, hlen, hxs, hf⟩ := DataW.trod_struct Tryz.underlying54 hy
    rw [c54] at hlen
    obtain ⟨c, t, rfl, ht⟩ := eight_of hlen
    have hxl : xs.length = 2 := hxs
    have f0 : DataW.trod enc Tryz.prog W 0 spare held n2 9 [c] = some (xs[0]'(by omega)) := by
      have := hf 0 _ rfl
      rw [List.getElem?_eq_getElem (by omega)] at this
      simpa [c9] using this
    have f1 : DataW.trod enc Tryz.prog W 0 spare held n2 52 t = some (xs[1]'(by omega)) := by
      have := hf 1 _ rfl
      rw [List.getElem?_eq_getElem (by omega)] at this
      simpa [c52, List.take_of_length_le (Nat.le_of_eq ht)] using this
    obtain ⟨s, hs⟩ := text_of Tryz.underlying9 f0
    injection hs with hs
    subst hs
    obtain ⟨v, hv⟩ := value_of n2 t _ f1
    exact ⟨((s, v), t), rfl, hv⟩
  have hpm : ∀ (i : Nat) q, prs[i]? = some q → ∃ e, es6[i]? = some e := fun i v hv => by
    have := (List.getElem?_eq_some_iff.1 hv).1
    exact ⟨_, List.getElem?_eq_getElem (by omega)⟩
  have hes6 : es6 = prCells (prs.map (·.1)) (prs.map (·.2)) := by
    apply List.ext_getElem?
    intro i
    cases hq : prs[i]? with
    | none =>
      rw [List.getElem?_eq_none (by have := List.getElem?_eq_none_iff.1 hq; omega), List.getElem?_eq_none]
      have := List.getElem?_eq_none_iff.1 hq
      simp [prCells]
      omega
    | some q =>
      obtain ⟨e, he⟩ := hpm i q hq
      rw [he, (hprs i e q he hq).1, prCells_get (p := q.1) (e := q.2) (by simp [hq]) (by simp [hq])]
  refine ⟨s6, prs.map (·.1), h6, ⟨prs.map (·.2), by rw [← hes6]; exact hs6, by simp, fun i e p he hp => ?_⟩, fun p hp => ?_⟩
  · cases hq : prs[i]? with
    | none => simp [hq] at he
    | some q =>
      simp [hq] at he hp
      subst he hp
      obtain ⟨e, he⟩ := hpm i q hq
      exact (hprs i e q he hq).2.1
  · obtain ⟨q, hq, rfl⟩ := List.mem_map.1 hp
    obtain ⟨i, hi, he⟩ := List.getElem_of_mem hq
    have hq : prs[i]? = some q := by rw [← he]; simp [hi]
    obtain ⟨e, he⟩ := hpm i q hq
    exact (hprs i e q he hq).2.2

/-- The three kinds of arguments. -/
theorem arg_value {v : Value} {d : DataW H} {ps : List MemPlace} (h : DataW.Trod enc Tryz.prog W 0 spare held 52 v d ps) : ∃ u cs, v = .agg cs.toArray ∧ RepV (frag W) u cs ∧ Wt u := by
  obtain ⟨fuel, h⟩ := h
  obtain ⟨u, h1, h2⟩ := value_of fuel _ _ h
  have hl := h1.len
  refine ⟨u, v.cells.toList, ?_, h1, h2⟩
  cases v <;> first | (simp [Value.cells] at hl; done) | (simp [Value.cells])
theorem arg_slice {v : Value} {r : Reach} {base : Nat} {t e : TypeId} (ht : P.underlying t = some (.slice e)) (hv : Value.okWide P W r base t v) : ∃ a len cap, v = .slice a len cap := Go.WideShapes.okWide_slice ht hv
theorem arg_pairs {v : Value} {d : DataW H} {ps : List MemPlace} (hv : ∃ a len cap, v = .slice a len cap) (h : DataW.Trod enc Tryz.prog W 0 spare held 22 v d ps) : ∃ qs, RepP (frag W) v qs ∧ WtP qs := by
  obtain ⟨a, len, cap, rfl⟩ := hv
  obtain ⟨fuel, h⟩ := h
  obtain ⟨s, qs, h1, h2, h3⟩ := pairs_of h
  have e : s = .slice a len cap := by simpa [Value.cells] using h1.symm
  subst e
  exact ⟨qs, h2, h3⟩
/-- A list of bytes; a list of texts. -/
def u8Cells (l : List Int) : List (List Value) := l.map fun n => [.int .u8 n]
theorem c55 : Tryz.prog.cellsOf 55 = 1 := by kernel_rfl
theorem arg_bytes {v : Value} {d : DataW H} {ps : List MemPlace} (hv : ∃ a len cap, v = .slice a len cap) (h : DataW.Trod enc Tryz.prog W 0 spare held 55 v d ps) :
    ∃ os po ko, v = .slice po os.length ko ∧ SlR (frag W) 1 (.slice po os.length ko) (u8Cells os) ∧ ∀ x ∈ os, 0 ≤ x ∧ x ≤ 255 := by
  obtain ⟨a, len, cap, rfl⟩ := hv
  obtain ⟨fuel, h⟩ := h
  obtain ⟨n', rfl⟩ := trod_fuel h
  obtain ⟨s, es, h1, hs, ha⟩ := sl_of Tryz.underlying55 (by rw [Sx.c5]; omega) h
  rw [Sx.c5] at hs
  obtain ⟨os, rfl, hos⟩ := all_map (f := fun n => [Value.int .u8 n]) (p := fun n => 0 ≤ n ∧ n ≤ 255) (es := es) fun c hc => by
    obtain ⟨y, hy⟩ := ha c hc
    obtain ⟨z, rfl, hz⟩ := int_of Tryz.underlying5 hy
    exact ⟨z, rfl, bounds_u8 hz⟩
  have e : s = .slice a len cap := by simpa [Value.cells] using h1.symm
  obtain ⟨po, ko, hp, _⟩ := id hs
  rw [List.length_map] at hp
  exact ⟨os, po, ko, by rw [← e, hp], by rw [← hp]; exact hs, hos⟩
theorem arg_texts {v : Value} {d : DataW H} {ps : List MemPlace} (hv : ∃ a len cap, v = .slice a len cap) (h : DataW.Trod enc Tryz.prog W 0 spare held 31 v d ps) :
    ∃ ts po ko, v = .slice po ts.length ko ∧ SlR (frag W) 1 (.slice po ts.length ko) (txtCells ts) := by
  obtain ⟨a, len, cap, rfl⟩ := hv
  obtain ⟨fuel, h⟩ := h
  obtain ⟨n', rfl⟩ := trod_fuel h
  obtain ⟨s, es, h1, hs, ha⟩ := sl_of Tryz.underlying31 (by rw [c9]; omega) h
  rw [c9] at hs
  obtain ⟨ts, rfl, _⟩ := all_map (f := fun s => [Value.string s]) (p := fun _ => True) (es := es) fun c hc => by
    obtain ⟨y, hy⟩ := ha c hc
    obtain ⟨z, rfl⟩ := text_of Tryz.underlying9 hy
    exact ⟨z, rfl, trivial⟩
  have e : s = .slice a len cap := by simpa [Value.cells] using h1.symm
  obtain ⟨po, ko, hp, _⟩ := id hs
  rw [List.length_map] at hp
  exact ⟨ts, po, ko, by rw [← e, hp], by rw [← hp]; exact hs⟩

/-- All arguments read behind a call as they did. -/
theorem below_trodAll {W' : World} (hl : laidOutB P = true) (hb : Below W.heap.size W W') : ∀ (ts : List TypeId) (vs : List Value) (ds : List (DataW H)) (ps : List MemPlace), (ts.all fun t => P.readableRec t && Nat.blt t P.types.size) = true →
    DataW.TrodAll enc P W 0 (fun _ => true) true ts vs ds ps → (∀ x ∈ ps, x.block < W.heap.size) → DataW.TrodAll enc P W' 0 (fun b => decide (b < W.heap.size)) true ts vs ds ps := by
  intro ts
  induction ts with
  | nil =>
    intro vs ds ps _ h _
    cases vs <;> cases ds <;> first | exact h | exact h.elim
  | cons t ts ih =>
    intro vs ds ps ht h hlt
    cases vs with
    | nil => cases ds <;> exact h.elim
    | cons v vs =>
      cases ds with
      | nil => exact h.elim
      | cons d ds =>
        obtain ⟨p, q, h1, h2, e⟩ := h
        rw [List.all_cons, Bool.and_eq_true, Bool.and_eq_true] at ht
        subst e
        exact ⟨p, q, Below.trod hl ht.1.1 (by simpa using ht.1.2) h1 hb (fun x hx => hlt x (by simp [hx])), ih _ _ _ ht.2 h2 (fun x hx => hlt x (by simp [hx])), rfl⟩
end Go.Sx

/-! Maps whose keys are texts and whose values are empty structs: making one, putting a key, asking for a key. Generic: no program is named. -/
namespace Go.Sx
open Go Go.RowKit

/-- A map object whose keys are the texts 'ks'. -/
def MapK (ks : List ByteArray) (o : Obj) : Prop := ∃ (es : Array MapEntry) (c : Nat), o = .map es c ∧ es.toList.map (·.key) = ks.map Value.string ∧ ∀ e ∈ es.toList, e.val = .agg #[]

theorem beq_self (k : ByteArray) : (k == k) = true := by
  exact (MapKept.bytes_beq k k).2 rfl
theorem beq_ne {k a : ByteArray} (h : ¬ k = a) : (k == a) = false := by
  cases hb : k == a with
  | false => rfl
  | true => exact absurd ((MapKept.bytes_beq k a).1 hb) h
theorem findNow_text (k : ByteArray) : ∀ (es : List MapEntry) (ks : List ByteArray) (i : Nat), es.map (·.key) = ks.map Value.string →
    (∃ (j : Nat) (e : MapEntry), es[j]? = some e ∧ e.key = .string k ∧ k ∈ ks ∧ Instr.findNow .string (.string k) es i = some (some (i + j, e.val))) ∨ (k ∉ ks ∧ Instr.findNow .string (.string k) es i = some none)
  | [], ks, i, h => by
    cases ks with
    | nil => exact .inr ⟨by simp, rfl⟩
    | cons a t => simp at h
  | e :: es, ks, i, h => by
    cases ks with
    | nil => simp at h
    | cons a t =>
      simp only [List.map_cons, List.cons.injEq] at h
      obtain ⟨h1, h2⟩ := h
      by_cases hk : k = a
      · subst hk
        refine .inl ⟨0, e, rfl, h1, by simp, ?_⟩
        simp only [Instr.findNow, h1, Instr.sameNow, beq_self, Nat.add_zero]
      · have hs : Instr.sameNow .string (.string k) e.key = some false := by
          rw [h1]
          simp only [Instr.sameNow, beq_ne hk]
        rcases findNow_text k es t (i + 1) h2 with ⟨j, e', h3, h4, h5, h6⟩ | ⟨h3, h4⟩
        · refine .inl ⟨j + 1, e', by simpa using h3, h4, List.mem_cons_of_mem _ h5, ?_⟩
          simp only [Instr.findNow, hs]
          rw [h6]
          simp only [Option.some.injEq, Prod.mk.injEq, and_true]
          omega
        · refine .inr ⟨by simp [hk, h3], ?_⟩
          simp only [Instr.findNow, hs]
          exact h4

section
variable {P : Program} {ops : Array Oper} {Q : Exit → Act → World → Prop} {N : Nat} {F : List (Nat × Value)} {E : Env} {R : Frag} {As As' : List Ent} {l : List Oper} {T kt et : TypeId} {x y z : Operand} {ty : TypeId} {pos : String} {af : Array Edge} {d : Nat}

theorem MapK.nil : MapK [] (.map #[] 0) := ⟨#[], 0, rfl, rfl, by simp⟩

theorem HL_makeMap {k : IntKind} {n : Int} (hd : Nat.blt d N = true) (hT : P.underlying T = some (.map kt et)) (hx : ev F x = some (.int k n))
    (h : ∀ b, HL P ops Q N ((d, .map (some b)) :: F) E R (.obj b (.map #[] 0) :: As) l) :
    HL P ops Q N F E R As (⟨some d, .makeMap T (some x), ty, pos, af, none⟩ :: l) := fun a w ha hs => by
  refine wp_value rfl (v := .map (some w.heap.size)) (w' := { w with heap := w.heap.push (.map #[] 0) }) ?_ (h w.heap.size _ _ (ha.put hd) (hs.push _))
  simp [execOp, Instr.makeMap, run_underlying' hT, ha.eval hx, asInt, asIntOf, newObj, Sem.run]

theorem run_findKey_some {w : World} {key : ByteArray} {es : List MapEntry} {r : Option (Nat × Value)} (hk : P.underlying kt = some .string) (h : Instr.findNow .string (.string key) es 0 = some r) :
    (Instr.findKey kt (.string key) es).run P w = .ok r w := by
  simp [Instr.findKey, run_underlying' hk, h]

theorem run_checkKey_text {w : World} {key : ByteArray} {e : Bool} (hk : P.underlying kt = some .string) : (Instr.checkKey e 10000 kt (.string key)).run P w = .ok () w := by
  rw [show (10000 : Nat) = 9999 + 1 from rfl]
  unfold Instr.checkKey
  simp [run_underlying' hk]

theorem HL_lookupK {b : Nat} {o : Obj} {ks : List ByteArray} {key : ByteArray} (hd : Nat.blt d N = true) (hT : P.underlying T = some (.map kt et)) (hk : P.underlying kt = some .string) (hz : TyZ P et (.agg #[]))
    (hx : ev F x = some (.map (some b))) (hy : ev F y = some (.string key)) (hb : R b = some o) (hm : MapK ks o)
    (h : HL P ops Q N ((d, .tuple #[.agg #[], .bool (ks.any fun k => decide (k = key))]) :: F) E R As l) :
    HL P ops Q N F E R As (⟨some d, .lookup T x y true, ty, pos, af, none⟩ :: l) :=
  HL_same hd (fun a w ha hs => by
    obtain ⟨es, c, rfl, h1, h2⟩ := hm
    have hsee := hs.sees b _ hb
    rcases findNow_text key es.toList ks 0 h1 with ⟨j, e, h3, h4, h5, h6⟩ | ⟨h5, h6⟩
    · have hv : e.val = .agg #[] := h2 e (List.mem_of_getElem? h3)
      simp [execOp, Instr.lookup, run_underlying' hT, ha.eval hx, ha.eval hy, MapKept.run_getObj_map hsee, run_checkKey_text hk, run_findKey_some hk h6, hv, h5]
    · simp [execOp, Instr.lookup, run_underlying' hT, ha.eval hx, ha.eval hy, MapKept.run_getObj_map hsee, run_checkKey_text hk, run_findKey_some hk h6, hz.run_zero]
      intro k' hk' e
      exact h5 (e ▸ hk')) h

theorem HL_mapUpdateK {b : Nat} {o : Obj} {ks : List ByteArray} {key : ByteArray} (hT : P.underlying T = some (.map kt et)) (hk : P.underlying kt = some .string)
    (hx : ev F x = some (.map (some b))) (hy : ev F y = some (.string key)) (hz : ev F z = some (.agg #[])) (hm : MapK ks o)
    (hs : ∀ o', ∃ As', Sel As (.obj b o) (.obj b o') As' ∧ ∀ ks', (∀ k', k' ∈ ks' ↔ k' = key ∨ k' ∈ ks) → MapK ks' o' → HL P ops Q N F E R As' l) :
    HL P ops Q N F E R As (⟨none, .mapUpdate T x y z, ty, pos, af, none⟩ :: l) := fun a w ha hst => by
  obtain ⟨es, c, rfl, h1, h2⟩ := hm
  obtain ⟨As1, hsel1, _⟩ := hs (.map es c)
  have hown := hst.own b _ hsel1.mem
  have hlt : b < w.heap.size := (Array.getElem?_eq_some_iff.1 hown).1
  rcases findNow_text key es.toList ks 0 h1 with ⟨j, e, h3, h4, h5, h6⟩ | ⟨h5, h6⟩
  · obtain ⟨As', hsel, hk'⟩ := hs (.map (es.modify j fun e => { e with key := .string key, val := .agg #[] }) c)
    have hje : es[j]? = some e := by simpa using h3
    have hlj : j < es.size := (Array.getElem?_eq_some_iff.1 hje).1
    have hsame : Instr.sameBits 10000 e.key (.string key) = true := by
      rw [h4, show (10000 : Nat) = 9999 + 1 from rfl]
      simp [Instr.sameBits, beq_self]
    refine wp_none (w' := { w with heap := w.heap.setIfInBounds b (.map (es.modify j fun e => { e with key := .string key, val := .agg #[] }) c) }) rfl ?_ (hk' ks (fun k' => ⟨.inr, fun h => by
      rcases h with rfl | h
      · exact h5
      · exact h⟩) ⟨_, _, rfl, ?_, ?_⟩ _ _ ha ?_)
    · simp [execOp, Instr.mapUpdate, run_underlying' hT, ha.eval hx, ha.eval hy, ha.eval hz, MapKept.run_getObj_map hown, MapKept.run_setObj_map _ hown, run_checkKey_text hk, run_findKey_some hk h6, Instr.keyThatStays, hje, hsame, hlt]
    · rw [← h1]
      apply List.ext_getElem?
      intro i
      simp only [List.getElem?_map, Array.getElem?_toList, Array.getElem?_modify]
      split
      · rename_i hij
        subst hij
        rw [hje]
        simp [h4]
      · rfl
    · intro e' he'
      obtain ⟨i, hi⟩ := List.mem_iff_getElem?.1 he'
      simp only [Array.getElem?_toList, Array.getElem?_modify] at hi
      split at hi
      · rename_i hij
        subst hij
        rw [hje] at hi
        simp at hi
        rw [← hi]
      · exact h2 e' (List.mem_iff_getElem?.2 ⟨i, by simpa using hi⟩)
    · exact hst.turn hsel rfl rfl rfl (by simp [hlt]) (fun k hk => by simp [Array.getElem?_setIfInBounds, Ne.symm hk])
  · obtain ⟨As', hsel, hk'⟩ := hs (.map (es.push { key := .string key, val := .agg #[], born := c }) (c + 1))
    refine wp_none (w' := { w with heap := w.heap.setIfInBounds b (.map (es.push { key := .string key, val := .agg #[], born := c }) (c + 1)) }) rfl ?_ (hk' (ks ++ [key]) (fun k' => by simp [or_comm]) ⟨_, _, rfl, ?_, ?_⟩ _ _ ha ?_)
    · simp [execOp, Instr.mapUpdate, run_underlying' hT, ha.eval hx, ha.eval hy, ha.eval hz, MapKept.run_getObj_map hown, MapKept.run_setObj_map _ hown, run_checkKey_text hk, run_findKey_some hk h6, hlt]
    · simp [h1]
    · intro e' he'
      simp only [Array.toList_push, List.mem_append, List.mem_singleton] at he'
      rcases he' with he' | rfl
      · exact h2 e' he'
      · rfl
    · exact hst.turn hsel rfl rfl rfl (by simp [hlt]) (fun k hk => by simp [Array.getElem?_setIfInBounds, Ne.symm hk])
end
end Go.Sx

/-! Filters of keys. Printed by a program of ours (wip/tools/gM43.py) out of the steps of the code. -/
namespace Go.Sx
open Go Go.Proofs Go.RowKit
set_option maxHeartbeats 8000000

theorem pl158 : Plc Tryz.prog 158 [] := ⟨_, Tryz.underlying158, by kernel_rfl⟩
def FilC (f : Value) (g : ByteArray → Bool) (R : Frag) : Prop := ∃ fn ws, f = .func (.func fn) #[] ws.toArray ∧ IsFn Tryz.prog fn ∧
 ∀ R', Frag.le R R' → ∀ k c0 c1 c2 c3, ones [.string k, c0, c1, c2, c3] = true → Pure Tryz.prog fn (.agg #[.string k, c0, c1, c2, c3] :: ws) R' (fun _ r => r = .bool (g k))
theorem FilC.mono {f : Value} {g : ByteArray → Bool} {R R' : Frag} (h : FilC f g R) (hle : Frag.le R R') : FilC f g R' := by
 obtain ⟨fn, ws, h1, h2, h3⟩ := h
 exact ⟨fn, ws, h1, h2, fun R'' hle' => h3 R'' (Frag.le_trans hle hle')⟩
theorem any_same {ks keys : List ByteArray} (h : ∀ k, k ∈ ks ↔ k ∈ keys) (k : ByteArray) : (ks.any fun x => decide (x = k)) = keys.any fun x => decide (x = k) := by
 rw [Bool.eq_iff_iff, List.any_eq_true, List.any_eq_true]
 simp [h]
theorem flt114 {R : Frag} {k : ByteArray} {c0 c1 c2 c3 : Value} : Pure Tryz.prog 114 [.agg #[.string k, c0, c1, c2, c3]] R (fun _ r => r = .bool false) := by
 intro E As
 refine ten Tryz.func114 ?_
 refine sq2 ?_
 refine HL_box rf rf (vs := [_, _, _, _, _]) rf (fun b1 => ?_)
 refine sq9 ?_
 refine hqr rf rf ?_
 exact fun w hs => ret_pure hs ttt (Frag.le_refl _) rfl
theorem flt115 {R : Frag} {k : ByteArray} {c0 c1 c2 c3 : Value} {bp bm : Nat} {o : Obj} {ks : List ByteArray} (hp : RdR R bp 0 1 [.map (some bm)]) (hm : R bm = some o) (hk : MapK ks o) : Pure Tryz.prog 115 [.agg #[.string k, c0, c1, c2, c3], .pointer (some ⟨bp, 0, none⟩)] R (fun _ r => r = .bool (ks.any fun x => decide (x = k))) := by
 intro E As
 refine ten Tryz.func115 ?_
 refine sq2 ?_
 refine HL_box rf rf (vs := [_, _, _, _, _]) rf (fun b2 => ?_)
 refine sq5 ?_
 refine HL_load_one rf ty157 rf hp.rd ?_
 refine HL_fieldAddr rf f97_0 rf ?_
 refine HL_load_one rf ty92 rf (.own mmm rf) ?_
 refine HL_lookupK (ks := ks) rf Tryz.underlying157 Tryz.underlying92 z158 rf rf hm hk ?_
 refine sq3 ?_
 refine HL_alloc rf z158 rf (fun b4 => ?_)
 refine HL_store (vs := []) ty158 rf rf rf rf sss rf ?_
 refine sq10 ?_
 refine hqr rf rf ?_
 exact fun w hs => ret_pure hs ttt (Frag.le_refl _) rfl
theorem newAllow {R : Frag} {p : Option Addr} {cap : Nat} {keys : List ByteArray} (h : SlR R 1 (.slice p keys.length cap) (txtCells keys)) (hlen : keys.length ≤ 1000000) :
  Pure Tryz.prog 66 [.slice p keys.length cap] R (fun R' r => FilC r (fun k => keys.any fun x => decide (x = k)) R') := by
 intro E As
 refine ten Tryz.func66 ?_
 refine sq9 ?_
 refine HL_len_slice rf Tryz.underlying111 rf ?_
 refine sq3 ?_
 refine HC_cond rf (fun ht8 => ?_) (fun ht8 => ?_)
 ·obtain rfl : keys = [] := List.eq_nil_of_length_eq_zero (by simpa using ht8)
  refine sq6 ?_
  refine HQ_then_ret ?_
  refine hqr rf rf ?_
  exact fun w hs => ret_pure hs ttt (Frag.le_refl _) ⟨114, [], rfl, is114, fun R' _ k c0 c1 c2 c3 _ => flt114⟩
 ·clear ht8
  refine sq5 ?_
  refine HL_len_slice rf Tryz.underlying111 rf ?_
  refine HL_makeMap rf Tryz.underlying157 rf (fun bm => ?_)
  refine HL_alloc rf z157 rf (fun b3 => ?_)
  refine HL_store (vs := [_]) ty157 rf rf rf rf sss rf ?_
  refine sq6 ?_
  refine HL_len_slice rf Tryz.underlying111 rf ?_
  refine sq4 ?_
  refine hcl (fun F' R' As' m => ∃ (i : Nat) (o : Obj) (ks : List ByteArray), i ≤ keys.length ∧ keys.length - i = m ∧ MapK ks o ∧ (∀ k, k ∈ ks ↔ k ∈ keys.take i) ∧ R' = R ∧ F' = [(3, .pointer (some ⟨b3, 0, none⟩)), (12, .slice p keys.length cap), (13, .int .i64 (keys.length : Int)), (14, .int .i64 (i : Int))] ∧ As' = blk b3 [.map (some bm)] 157 :: .obj bm o :: As) (blk b3 [.map (some bm)] 157 :: .obj bm (.map #[] 0) :: As) keys.length ⟨0, _, [], by omega, by omega, MapK.nil, by simp, rfl, rfl, rfl⟩ ?_
  rintro F' R₀ As' m ⟨i, o, ks, hi, rfl, hmk, hks, rfl, rfl, rfl⟩
  refine sq6 ?_
  refine HC_cond rf (fun ht15 => ?_) (fun ht15 => ?_)
  ·have hlt : i < keys.length := by simpa using ht15
   obtain ⟨b, off, hp, hrd⟩ := h.at (i := i) (by simpa [txtCells] using hlt)
   rw [Nat.mul_one] at hrd
   have hc : (txtCells keys)[i]'(by simpa [txtCells] using hlt) = [.string keys[i]] := by simp [txtCells]
   rw [hc] at hrd
   refine sq6 ?_
   refine HL_indexAddr rf Tryz.underlying111 ty92 (by rw [← hp]; rfl) rf hlt ?_
   refine HL_load_one rf ty92 rf (by simpa using hrd.rd) ?_
   refine sq4 ?_
   refine HL_load_one rf ty157 rf (.own mmm rf) ?_
   refine HL_move rf rf ?_
   refine HL_build rf z158 pl158 rf (qs := []) rf (cs := []) rf ?_
   refine HL_mapUpdateK (ks := ks) Tryz.underlying157 Tryz.underlying92 rf rf rf hmk (fun o' => ⟨_, .there .here, fun ks' hks' hmk' => ?_⟩)
   refine HL_nil ?_
   refine HQ_block ?_
   refine sq2 ?_
   refine HL_add rf rf rf (by omega) (by omega) ?_
   refine sq2 ?_
   refine hqr1 (keys.length - (i + 1)) ⟨i + 1, o', ks', by omega, rfl, hmk', fun k => ?_, rfl, rfl, rfl⟩
   have et : keys.take (i + 1) = keys.take i ++ [keys[i]] := by rw [List.take_add_one]; simp [hlt]
   rw [hks', hks, et, List.mem_append, List.mem_singleton, or_comm]
  ·have hge : i = keys.length := by simp at ht15; omega
   subst hge
   rw [List.take_length] at hks
   refine HC_exit ?_
   refine sq2 ?_
   refine HQ_block_same ?_
   refine sq2 ?_
   refine HC_seal .here (fun R₁ hle1 hb3 => ?_)
   refine HC_seal .here (fun R₂ hle2 hbm => ?_)
   refine HC_region ?_
   refine HL_makeFunc (vs := []) (us := [.pointer (some ⟨b3, 0, none⟩)]) rf rf rf ?_
   refine sq4 ?_
   refine hqr rf rf ?_
   exact fun w hs => ret_pure hs ttt (Frag.le_trans hle1 hle2) ⟨115, [.pointer (some ⟨b3, 0, none⟩)], rfl, is115, fun R' hle k c0 c1 c2 c3 _ => (by
    simp only [← any_same hks k]
    exact flt115 ⟨_, _, _, hle _ _ (hle2 _ _ hb3), by rfl⟩ (hle _ _ hbm) hmk)⟩
theorem flt116 {R : Frag} {k : ByteArray} {c0 c1 c2 c3 : Value} : Pure Tryz.prog 116 [.agg #[.string k, c0, c1, c2, c3]] R (fun _ r => r = .bool true) := by
 intro E As
 refine ten Tryz.func116 ?_
 refine sq2 ?_
 refine HL_box rf rf (vs := [_, _, _, _, _]) rf (fun b1 => ?_)
 refine sq9 ?_
 refine hqr rf rf ?_
 exact fun w hs => ret_pure hs ttt (Frag.le_refl _) rfl
theorem flt117 {R : Frag} {k : ByteArray} {c0 c1 c2 c3 : Value} {bp bm : Nat} {o : Obj} {ks : List ByteArray} (hp : RdR R bp 0 1 [.map (some bm)]) (hm : R bm = some o) (hk : MapK ks o) : Pure Tryz.prog 117 [.agg #[.string k, c0, c1, c2, c3], .pointer (some ⟨bp, 0, none⟩)] R (fun _ r => r = .bool (!ks.any fun x => decide (x = k))) := by
 intro E As
 refine ten Tryz.func117 ?_
 refine sq2 ?_
 refine HL_box rf rf (vs := [_, _, _, _, _]) rf (fun b2 => ?_)
 refine sq5 ?_
 refine HL_load_one rf ty157 rf hp.rd ?_
 refine HL_fieldAddr rf f97_0 rf ?_
 refine HL_load_one rf ty92 rf (.own mmm rf) ?_
 refine HL_lookupK (ks := ks) rf Tryz.underlying157 Tryz.underlying92 z158 rf rf hm hk ?_
 refine sq3 ?_
 refine HL_alloc rf z158 rf (fun b4 => ?_)
 refine HL_store (vs := []) ty158 rf rf rf rf sss rf ?_
 refine sq11 ?_
 refine hqr rf rf ?_
 exact fun w hs => ret_pure hs ttt (Frag.le_refl _) rfl
theorem newDeny {R : Frag} {p : Option Addr} {cap : Nat} {keys : List ByteArray} (h : SlR R 1 (.slice p keys.length cap) (txtCells keys)) (hlen : keys.length ≤ 1000000) :
  Pure Tryz.prog 67 [.slice p keys.length cap] R (fun R' r => FilC r (fun k => !keys.any fun x => decide (x = k)) R') := by
 intro E As
 refine ten Tryz.func67 ?_
 refine sq9 ?_
 refine HL_len_slice rf Tryz.underlying111 rf ?_
 refine sq3 ?_
 refine HC_cond rf (fun ht8 => ?_) (fun ht8 => ?_)
 ·obtain rfl : keys = [] := List.eq_nil_of_length_eq_zero (by simpa using ht8)
  refine sq6 ?_
  refine HQ_then_ret ?_
  refine hqr rf rf ?_
  exact fun w hs => ret_pure hs ttt (Frag.le_refl _) ⟨116, [], rfl, is116, fun R' _ k c0 c1 c2 c3 _ => flt116⟩
 ·clear ht8
  refine sq5 ?_
  refine HL_len_slice rf Tryz.underlying111 rf ?_
  refine HL_makeMap rf Tryz.underlying157 rf (fun bm => ?_)
  refine HL_alloc rf z157 rf (fun b3 => ?_)
  refine HL_store (vs := [_]) ty157 rf rf rf rf sss rf ?_
  refine sq6 ?_
  refine HL_len_slice rf Tryz.underlying111 rf ?_
  refine sq4 ?_
  refine hcl (fun F' R' As' m => ∃ (i : Nat) (o : Obj) (ks : List ByteArray), i ≤ keys.length ∧ keys.length - i = m ∧ MapK ks o ∧ (∀ k, k ∈ ks ↔ k ∈ keys.take i) ∧ R' = R ∧ F' = [(3, .pointer (some ⟨b3, 0, none⟩)), (12, .slice p keys.length cap), (13, .int .i64 (keys.length : Int)), (14, .int .i64 (i : Int))] ∧ As' = blk b3 [.map (some bm)] 157 :: .obj bm o :: As) (blk b3 [.map (some bm)] 157 :: .obj bm (.map #[] 0) :: As) keys.length ⟨0, _, [], by omega, by omega, MapK.nil, by simp, rfl, rfl, rfl⟩ ?_
  rintro F' R₀ As' m ⟨i, o, ks, hi, rfl, hmk, hks, rfl, rfl, rfl⟩
  refine sq6 ?_
  refine HC_cond rf (fun ht15 => ?_) (fun ht15 => ?_)
  ·have hlt : i < keys.length := by simpa using ht15
   obtain ⟨b, off, hp, hrd⟩ := h.at (i := i) (by simpa [txtCells] using hlt)
   rw [Nat.mul_one] at hrd
   have hc : (txtCells keys)[i]'(by simpa [txtCells] using hlt) = [.string keys[i]] := by simp [txtCells]
   rw [hc] at hrd
   refine sq6 ?_
   refine HL_indexAddr rf Tryz.underlying111 ty92 (by rw [← hp]; rfl) rf hlt ?_
   refine HL_load_one rf ty92 rf (by simpa using hrd.rd) ?_
   refine sq4 ?_
   refine HL_load_one rf ty157 rf (.own mmm rf) ?_
   refine HL_move rf rf ?_
   refine HL_build rf z158 pl158 rf (qs := []) rf (cs := []) rf ?_
   refine HL_mapUpdateK (ks := ks) Tryz.underlying157 Tryz.underlying92 rf rf rf hmk (fun o' => ⟨_, .there .here, fun ks' hks' hmk' => ?_⟩)
   refine HL_nil ?_
   refine HQ_block ?_
   refine sq2 ?_
   refine HL_add rf rf rf (by omega) (by omega) ?_
   refine sq2 ?_
   refine hqr1 (keys.length - (i + 1)) ⟨i + 1, o', ks', by omega, rfl, hmk', fun k => ?_, rfl, rfl, rfl⟩
   have et : keys.take (i + 1) = keys.take i ++ [keys[i]] := by rw [List.take_add_one]; simp [hlt]
   rw [hks', hks, et, List.mem_append, List.mem_singleton, or_comm]
  ·have hge : i = keys.length := by simp at ht15; omega
   subst hge
   rw [List.take_length] at hks
   refine HC_exit ?_
   refine sq2 ?_
   refine HQ_block_same ?_
   refine sq2 ?_
   refine HC_seal .here (fun R₁ hle1 hb3 => ?_)
   refine HC_seal .here (fun R₂ hle2 hbm => ?_)
   refine HC_region ?_
   refine HL_makeFunc (vs := []) (us := [.pointer (some ⟨b3, 0, none⟩)]) rf rf rf ?_
   refine sq4 ?_
   refine hqr rf rf ?_
   exact fun w hs => ret_pure hs ttt (Frag.le_trans hle1 hle2) ⟨117, [.pointer (some ⟨b3, 0, none⟩)], rfl, is117, fun R' hle k c0 c1 c2 c3 _ => (by
    simp only [← any_same hks k]
    exact flt117 ⟨_, _, _, hle _ _ (hle2 _ _ hb3), by rfl⟩ (hle _ _ hbm) hmk)⟩
end Go.Sx

/-! Plain: of equal keys the last one, reckoned from the right. No program is named. -/
namespace Go.Sx
open Go
/-- Of neighbours with one key the last one. -/
def ddK {α : Type} (key : α → List UInt8) : List α → List α
  | [] => []
  | x :: t => match ddK key t with
    | [] => [x]
    | y :: r => if key x = key y then y :: r else x :: y :: r
theorem ddK_one {α : Type} {key : α → List UInt8} (x : α) : ddK key [x] = [x] := rfl
theorem ddK_eq {α : Type} {key : α → List UInt8} {x y : α} {t r : List α} (h : ddK key t = y :: r) (hk : key x = key y) : ddK key (x :: t) = y :: r := by
  rw [ddK, h]; exact if_pos hk
theorem ddK_ne {α : Type} {key : α → List UInt8} {x y : α} {t r : List α} (h : ddK key t = y :: r) (hk : ¬ key x = key y) : ddK key (x :: t) = x :: y :: r := by
  rw [ddK, h]; exact if_neg hk
theorem ddK_cons {α : Type} {key : α → List UInt8} (x : α) (t : List α) : ∃ y r, ddK key (x :: t) = y :: r := by
  rw [ddK]
  split
  · exact ⟨_, _, rfl⟩
  · split <;> exact ⟨_, _, rfl⟩
theorem ddK_map {α β : Type} {ka : α → List UInt8} {kb : β → List UInt8} (f : α → β) (h : ∀ x, kb (f x) = ka x) (l : List α) : ddK kb (l.map f) = (ddK ka l).map f := by
  induction l with
  | nil => rfl
  | cons x t ih =>
    rw [List.map_cons, ddK, ddK, ih]
    cases ddK ka t with
    | nil => rfl
    | cons y r =>
      simp only [List.map_cons, h]
      split <;> rfl
theorem ddK_sub {α : Type} {key : α → List UInt8} (l : List α) : (ddK key l).Sublist l := by
  induction l with
  | nil => exact .slnil
  | cons x t ih =>
    rw [ddK]
    split
    · exact (List.nil_sublist t).cons_cons x
    · rename_i y r h
      rw [h] at ih
      split
      · exact ih.cons x
      · exact ih.cons_cons x
theorem pk_eq {p q : Pr} : pk p = pk q ↔ p.1 = q.1 := ⟨fun h => kb_inj h, fun h => by unfold pk; rw [h]⟩
theorem foldl_dd : ∀ (l out : List Pr), l.foldl setAdd out = match ddK pk l with | [] => out | y :: r => setAdd out y ++ r := by
  intro l
  induction l with
  | nil => intro out; rfl
  | cons x t ih =>
    intro out
    rw [List.foldl_cons, ih, ddK]
    cases hd : ddK pk t with
    | nil => simp
    | cons y r =>
      by_cases hk : pk x = pk y
      · have hk' := pk_eq.1 hk
        simp only [if_pos hk]
        congr 1
        unfold setAdd
        by_cases ho : out.getLast?.map (·.1) = some x.1
        · rw [if_pos ho]
          simp [← hk', ho]
        · rw [if_neg ho]
          have ho' : ¬ out.getLast?.map (·.1) = some y.1 := by rw [← hk']; exact ho
          simp only [List.getLast?_append, List.getLast?_singleton, Option.some_or, Option.map_some, hk', if_true, if_neg ho', List.dropLast_concat]
      · have hk' : ¬ x.1 = y.1 := fun e => hk (pk_eq.2 e)
        simp only [if_neg hk]
        have hl : ((setAdd out x).getLast?.map (·.1)) = some x.1 := by
          unfold setAdd
          split <;> simp
        have hq : ∀ q : List Pr, q.getLast?.map (·.1) = some x.1 → setAdd q y = q ++ [y] := fun q hl => by
          unfold setAdd
          rw [if_neg]
          rw [hl]
          intro e
          injection e with e
          exact hk' e
        rw [hq _ hl]
        simp
theorem setOf_dd (l : List Pr) : setOf l = ddK pk ((sortK pk l).map pmap) := by
  unfold setOf
  rw [foldl_dd]
  cases ddK pk ((sortK pk l).map pmap) with
  | nil => rfl
  | cons y r => simp [setAdd]
/-- The set of attributes that are plain already. -/
theorem setOf_plain (l : List Pr) : setOf l = ddK pk (sortK pk (l.map pmap)) := by
  rw [setOf_dd, sortK_map (ka := pk) pmap (fun _ => rfl)]
def zk (z : Pr × List Value) : List UInt8 := pk z.1
/-- Attributes with their cells, in order, of each key the last one. -/
def dz (Z : List (Pr × List Value)) : List (Pr × List Value) := ddK zk (sortK zk Z)
theorem dz_fst (Z : List (Pr × List Value)) : (dz Z).map (·.1) = ddK pk (sortK pk (Z.map (·.1))) := by
  unfold dz
  rw [sort_fst, ← ddK_map (ka := zk) (kb := pk) (·.1) (fun _ => rfl)]
  rfl
theorem dz_mem {Z : List (Pr × List Value)} {z} (h : z ∈ dz Z) : z ∈ Z := (mem_sortK _ _).1 ((ddK_sub _).subset h)
theorem dz_len (Z : List (Pr × List Value)) : (dz Z).length ≤ Z.length := by
  have := (ddK_sub (key := zk) (sortK zk Z)).length_le
  rw [length_sortK] at this
  exact this
theorem dz_bytes (Z : List (Pr × List Value)) : (((dz Z).map (·.1)).flatMap hq).length ≤ ((Z.map (·.1)).flatMap hq).length := by
  rw [len_flatMap_sum, len_flatMap_sum, List.map_map, List.map_map]
  have h1 := sum_perm (((sortK_perm (key := zk) Z)).map ((fun x => (hq x).length) ∘ (·.1)))
  have h2 := sum_sub ((ddK_sub (key := zk) (sortK zk Z)).map ((fun x => (hq x).length) ∘ (·.1)))
  unfold dz
  omega
end Go.Sx

/-! Plain: sets of attributes, told key by key. No program is named. -/
namespace Go.Sx
open Go
section
variable {α : Type} {key : α → List UInt8}
theorem ddK_head {x y : α} {t r : List α} (h : ddK key (x :: t) = y :: r) : key y = key x := by
  rw [ddK] at h
  split at h
  · injection h with h _; rw [← h]
  · rename_i z s hz
    split at h
    · rename_i hk
      injection h with h _
      rw [← h, hk]
    · injection h with h _; rw [← h]
theorem sortedK_dd {s : List α} (h : SortedK key s) : SortedK key (ddK key s) := List.Pairwise.sublist (ddK_sub s) h
theorem dd_filter : ∀ {s : List α}, SortedK key s → ∀ k, (ddK key s).filter (fun x => key x == k) = ((s.filter fun x => key x == k).getLast?).toList := by
  intro s
  induction s with
  | nil => intro _ k; rfl
  | cons x t ih =>
    intro hs k
    have hst : SortedK key t := (List.pairwise_cons.1 hs).2
    have hxt := (List.pairwise_cons.1 hs).1
    have hi := ih hst k
    cases t with
    | nil =>
      rw [ddK_one]
      by_cases hx : (key x == k) = true
      · simp [hx]
      · simp [hx]
    | cons z t' =>
      obtain ⟨y, r, hd⟩ := ddK_cons (key := key) z t'
      have hyz := ddK_head hd
      by_cases hk : key x = key y
      · rw [ddK_eq hd hk, ← hd, hi]
        by_cases hx : (key x == k) = true
        · have hz : (key z == k) = true := by rw [← hyz, ← hk]; exact hx
          rw [List.filter_cons_of_pos (l := z :: t') hx]
          have hne : (z :: t').filter (fun x => key x == k) ≠ [] := by
            rw [List.filter_cons_of_pos (l := t') hz]
            simp
          obtain ⟨a, l, e⟩ := List.exists_cons_of_ne_nil hne
          rw [e, List.getLast?_cons_cons]
        · rw [List.filter_cons_of_neg (l := z :: t') hx]
      · rw [ddK_ne hd hk, ← hd]
        by_cases hx : (key x == k) = true
        · have hno : (z :: t').filter (fun x => key x == k) = [] := by
            rw [List.filter_eq_nil_iff]
            intro a ha hak
            apply hk
            have h1 : ble (key x) (key z) := hxt z (by simp)
            have h2 : ble (key z) (key a) := by
              rcases List.mem_cons.1 ha with rfl | ha'
              · exact ble_refl _
              · exact (List.pairwise_cons.1 hst).1 a ha'
            have e : key a = key x := by
              have e1 : key a = k := by simpa using hak
              have e2 : key x = k := by simpa using hx
              rw [e1, e2]
            rw [e] at h2
            rw [hyz]
            exact ble_antisymm h1 h2
          rw [hno] at hi
          rw [List.filter_cons_of_pos (l := ddK key (z :: t')) hx, hi, List.filter_cons_of_pos (l := z :: t') hx, hno]
          rfl
        · rw [List.filter_cons_of_neg (l := ddK key (z :: t')) hx, hi, List.filter_cons_of_neg (l := z :: t') hx]
end
def atK (l : List Pr) (k : List UInt8) : List Pr := l.filter fun p => pk p == k
/-- Of a set each key's attribute: the last one. -/
theorem setOf_at (l : List Pr) (k : List UInt8) : atK (setOf l) k = (((atK l k).map pmap).getLast?).toList := by
  unfold atK
  rw [setOf_plain, dd_filter (sorted_sortK _) k, ← steq_sortK (l.map pmap) k]
  congr 2
  induction l with
  | nil => rfl
  | cons p t ih =>
    by_cases h : (pk p == k) = true
    · have h' : (pk (pmap p) == k) = true := h
      rw [List.map_cons, List.filter_cons_of_pos (p := fun x => pk x == k) h', List.filter_cons_of_pos (p := fun x => pk x == k) h, List.map_cons, ih]
    · have h' : ¬ (pk (pmap p) == k) = true := h
      rw [List.map_cons, List.filter_cons_of_neg (p := fun x => pk x == k) h', List.filter_cons_of_neg (p := fun x => pk x == k) h, ih]
theorem setOf_sorted (l : List Pr) : SortedK pk (setOf l) := by
  rw [setOf_plain]
  exact sortedK_dd (sorted_sortK _)
/-- Two lists make one set just if they have of each key one last attribute. -/
theorem setOf_ext {a b : List Pr} (h : ∀ k, ((atK a k).map pmap).getLast? = ((atK b k).map pmap).getLast?) : setOf a = setOf b :=
  sorted_unique (setOf_sorted a) (setOf_sorted b) fun k => by
    have h1 := setOf_at a k
    have h2 := setOf_at b k
    rw [h k] at h1
    exact h1.trans h2.symm
theorem atK_cons_eq {p : Pr} {l : List Pr} {k : List UInt8} (h : pk p = k) : atK (p :: l) k = p :: atK l k := List.filter_cons_of_pos (by simp [h])
theorem atK_cons_ne {p : Pr} {l : List Pr} {k : List UInt8} (h : pk p ≠ k) : atK (p :: l) k = atK l k := List.filter_cons_of_neg (by simp [h])
theorem atK_app (a b : List Pr) (k : List UInt8) : atK (a ++ b) k = atK a k ++ atK b k := List.filter_append ..
theorem atK_ne {l : List Pr} {k : List UInt8} : atK l k ≠ [] ↔ ∃ p ∈ l, pk p = k := by
  unfold atK
  rw [Ne, List.filter_eq_nil_iff]
  constructor
  · intro h
    refine Classical.byContradiction fun hn => h fun a ha hk => hn ⟨a, ha, by simpa using hk⟩
  · rintro ⟨p, hp, hk⟩ h
    exact h p hp (by simp [hk])
/-- A further attribute ahead, with a key that is there. -/
theorem setOf_ahead {p : Pr} {l : List Pr} (h : ∃ q ∈ l, pk q = pk p) : setOf (p :: l) = setOf l := by
  refine setOf_ext fun k => ?_
  by_cases hk : pk p = k
  · rw [atK_cons_eq hk]
    have hne : atK l k ≠ [] := atK_ne.2 (by rw [← hk]; exact h)
    obtain ⟨a, t, e⟩ := List.exists_cons_of_ne_nil hne
    rw [e, List.map_cons, List.map_cons, List.getLast?_cons_cons]
  · rw [atK_cons_ne hk]
theorem setOf_length_le (l : List Pr) : (setOf l).length ≤ l.length := by
  rw [setOf_plain]
  have := (ddK_sub (key := pk) (sortK pk (l.map pmap))).length_le
  rw [length_sortK] at this
  simpa using this
/-- Where no attribute falls away each key is there once. -/
theorem atK_once {l : List Pr} (h : (setOf l).length = l.length) (k : List UInt8) : (atK l k).length ≤ 1 := by
  have h0 : (ddK pk (sortK pk (l.map pmap))).length = (sortK pk (l.map pmap)).length := by
    rw [← setOf_plain, h, length_sortK]; simp
  have e := (ddK_sub (key := pk) (sortK pk (l.map pmap))).eq_of_length h0
  have h1 := dd_filter (sorted_sortK (key := pk) (l.map pmap)) k
  rw [e] at h1
  have h2 : ((sortK pk (l.map pmap)).filter fun x => pk x == k).length ≤ 1 := by
    rw [h1]
    cases ((sortK pk (l.map pmap)).filter fun x => pk x == k).getLast? <;> simp
  rw [← steq_sortK (l.map pmap) k] at h2
  have h3 : (atK l k).length = ((l.map pmap).filter fun x => pk x == k).length := by
    unfold atK
    clear h h0 e h1 h2
    induction l with
    | nil => rfl
    | cons p t ih =>
      by_cases h : (pk p == k) = true
      · have h' : (pk (pmap p) == k) = true := h
        rw [List.map_cons, List.filter_cons_of_pos (p := fun x => pk x == k) h', List.filter_cons_of_pos (p := fun x => pk x == k) h, List.length_cons, List.length_cons, ih]
      · have h' : ¬ (pk (pmap p) == k) = true := h
        rw [List.map_cons, List.filter_cons_of_neg (p := fun x => pk x == k) h', List.filter_cons_of_neg (p := fun x => pk x == k) h, ih]
  omega
/-- The order plays no part where each key is there once. -/
theorem setOf_perm {a b : List Pr} (hp : b.Perm a) (h : (setOf a).length = a.length) : setOf b = setOf a := by
  refine setOf_ext fun k => ?_
  have h1 := atK_once h k
  have h2 : (atK b k).Perm (atK a k) := hp.filter _
  have e : atK b k = atK a k := by
    match ha : atK a k, h1 with
    | [], _ => rw [ha] at h2; exact h2.eq_nil
    | [x], _ => rw [ha] at h2; exact List.perm_singleton.1 h2
    | _ :: _ :: _, h1 => simp at h1
  rw [e]
end Go.Sx

/-! Plain laws of the parts that a filter makes of a set: what is kept, what is removed in whatever order, what both make together. -/
namespace Go.Sx
open Go Go.RowKit

theorem atK_setOf_le (l : List Pr) (k : List UInt8) : (atK (setOf l) k).length ≤ 1 := by
  rw [setOf_at]
  cases ((atK l k).map pmap).getLast? <;> simp
theorem atK_filter_le (l : List Pr) (f : Pr → Bool) (k : List UInt8) (h : (atK l k).length ≤ 1) : (atK (l.filter f) k).length ≤ 1 := by
  have : (atK (l.filter f) k).Sublist (atK l k) := by
    unfold atK
    exact List.filter_sublist.filter _
  exact Nat.le_trans this.length_le h
theorem perm_one {α : Type} {a b : List α} (h : b.Perm a) (ha : a.length ≤ 1) : b = a := by
  match a, ha with
  | [], _ => exact h.eq_nil
  | [x], _ => exact List.perm_singleton.1 h
  | _ :: _ :: _, h1 => simp at h1
/-- A list that is sorted, its keys once, is what the sort makes of it in another order. -/
theorem sortK_of_perm {a b : List Pr} (hs : SortedK pk a) (h1 : ∀ k, (atK a k).length ≤ 1) (hp : b.Perm a) : sortK pk b = a :=
  (sortK_of hs fun k => perm_one (hp.filter _) (h1 k)).symm
theorem setOf_filter_sorted (l : List Pr) (f : Pr → Bool) : SortedK pk ((setOf l).filter f) := List.Pairwise.sublist List.filter_sublist (setOf_sorted l)
/-- What is removed, sorted. -/
theorem removed_sorted {l b : List Pr} {f : Pr → Bool} (hp : b.Perm ((setOf l).filter f)) : sortK pk b = (setOf l).filter f :=
  sortK_of_perm (setOf_filter_sorted l f) (fun k => atK_filter_le _ f k (atK_setOf_le l k)) hp
theorem perm_parts {α : Type} (f : α → Bool) : ∀ (l : List α), ((l.filter fun x => !f x) ++ l.filter f).Perm l
  | [] => .refl _
  | x :: t => by
    cases h : f x with
    | true =>
      rw [List.filter_cons_of_neg (by simp [h]), List.filter_cons_of_pos h]
      exact List.perm_middle.trans ((perm_parts f t).cons x)
    | false =>
      rw [List.filter_cons_of_pos (by simp [h]), List.filter_cons_of_neg (by simp [h]), List.cons_append]
      exact (perm_parts f t).cons x
end Go.Sx

/-! Texts are compared; the functions by which lists of attributes are sorted compare by keys. Printed by a program of ours (wip/tools/gM2.py) out of the steps of the code. -/
namespace Go.Sx
open Go Go.Proofs Go.RowKit
set_option maxHeartbeats 8000000

theorem run200 (a b : ByteArray) (w : World) : (callFunc 200 #[.string a, .string b]).run Tryz.prog w = .ok (.value (.int .i64 (cmpT (kb a) (kb b)))) w := by
 rw [run_callFunc_extern (e := Extern.BytealgCompare.compare) Tryz.func200 (by kernel_rfl) (by kernel_rfl) (by kernel_rfl) (by kernel_rfl)]
 rw [Lib.run_compareString, compareBytes_eq]
 rfl
theorem compareString (R : Frag) (a b : ByteArray) : Pure Tryz.prog 132 [.string a, .string b] R (fun _ r => r = .int .i64 (cmpT (kb a) (kb b))) := by
 intro E As
 refine ten Tryz.func132 ?_
 refine sq9 ?_
 refine HL_same (v := .int .i64 (cmpT (kb a) (kb b))) rf (fun a' w ha _ => ?_) ?_
 ·have e1 : ([Operand.tmp 5, Operand.tmp 6].map a'.eval) = [.string a, .string b] := ha.evals rfl
  have e2 : a'.eval (.func 200) = .func (.func 200) #[] #[] := rfl
  simp only [List.map_cons, List.map_nil, List.cons.injEq, and_true] at e1
  simp [execOp, resolve, Deferred.ofValue, invoke, e2, e1.1, e1.2, run200]
 refine sq4 ?_
 refine hqr rf rf ?_
 exact fun w hs => ret_pure hs ttt (Frag.le_refl _) rfl
theorem stringsCompare (R : Frag) (a b : ByteArray) : Pure Tryz.prog 78 [.string a, .string b] R (fun _ r => r = .int .i64 (cmpT (kb a) (kb b))) := by
 intro E As
 refine ten Tryz.func78 ?_
 refine sq9 ?_
 refine HL_call rf is132 rf (compareString _ _ _ _ _) ?_
 rintro v R' As' ⟨rfl, hle, rfl⟩
 refine sq4 ?_
 refine hqr rf rf ?_
 exact fun w hs => ret_pure hs ttt hle rfl
theorem isNaN (R : Frag) (a : ByteArray) : Pure Tryz.prog 189 [.string a] R (fun _ r => r = .bool false) := by
 intro E As
 refine ten Tryz.func189 ?_
 refine sq9 ?_
 refine HL_neqS rf rf rf ?_
 refine sq4 ?_
 refine hqr rf rf ?_
 exact fun w hs => ret_pure hs ttt (Frag.le_refl _) (by simp)
theorem cmpCompare (R : Frag) (a b : ByteArray) : Pure Tryz.prog 121 [.string a, .string b] R (fun _ r => r = .int .i64 (cmpT (kb a) (kb b))) := by
 intro E As
 refine ten Tryz.func121 ?_
 refine sq8 ?_
 refine HL_call rf is189 rf (isNaN _ _ _ _) ?_
 rintro v R1 As' ⟨rfl, hle1, rfl⟩
 refine sq6 ?_
 refine HL_call rf is189 rf (isNaN _ _ _ _) ?_
 rintro v R2 As' ⟨rfl, hle2, rfl⟩
 refine sq9 ?_
 refine HC_cond_f rf ?_
 refine sq8 ?_
 refine HC_cond_f rf ?_
 refine sq7 ?_
 refine HL_lssS rf rf rf ?_
 refine sq2 ?_
 refine HC_cond rf (fun ht16 => ?_) (fun ht16 => ?_)
 ·skip
  refine sq6 ?_
  refine HQ_then_ret ?_
  refine hqr rf rf ?_
  exact fun w hs => ret_pure hs ttt (Frag.le_trans hle1 hle2) (by simp [cmpT, ht16])
 ·skip
  refine sq7 ?_
  refine HL_gtrS rf rf rf ?_
  refine sq2 ?_
  refine HC_cond rf (fun ht19 => ?_) (fun ht19 => ?_)
  ·skip
   refine sq6 ?_
   refine HQ_then_ret ?_
   refine hqr rf rf ?_
   have hne : ¬ kb a = kb b := fun e => by rw [e, bl_irrefl] at ht19; cases ht19
   exact fun w hs => ret_pure hs ttt (Frag.le_trans hle1 hle2) (by simp [cmpT, ht16, hne])
  ·skip
   refine sq8 ?_
   refine hqr rf rf ?_
   have he : kb a = kb b := by
    rcases bl_tri (kb a) (kb b) with h | h | h
    ·rw [h] at ht16; cases ht16
    ·exact h
    ·rw [h] at ht19; cases ht19
   exact fun w hs => ret_pure hs ttt (Frag.le_trans hle1 hle2) (by simp [cmpT, he, bl_irrefl])
theorem cmp77 : CmpOk Tryz.prog 77 8 := by
 intro R e1 e2 he1 he2
 obtain ⟨k1, c0, c1, c2, c3, c4, c5, c6, rfl⟩ := he1.eight
 obtain ⟨k2, d0, d1, d2, d3, d4, d5, d6, rfl⟩ := he2.eight
 intro E As
 refine ten Tryz.func77 ?_
 refine sq2 ?_
 refine HL_box rf rf (vs := [_, _, _, _, _, _, _, _]) rf (fun b2 => ?_)
 refine HL_box rf rf (vs := [_, _, _, _, _, _, _, _]) rf (fun b3 => ?_)
 refine sq5 ?_
 refine HL_fieldAddr rf f54_0 rf ?_
 refine HL_load_one rf ty9 rf rdd ?_
 refine HL_fieldAddr rf f54_0 rf ?_
 refine HL_load_one rf ty9 rf rdd ?_
 refine HL_call rf is78 rf (stringsCompare _ _ _ _ _) ?_
 rintro v R' As' ⟨rfl, hle, rfl⟩
 refine sq4 ?_
 refine hqr rf rf ?_
 exact fun w hs => ret_pure hs ttt hle rfl
theorem cmp120 : CmpOk Tryz.prog 120 5 := by
 intro R e1 e2 he1 he2
 obtain ⟨k1, c0, c1, c2, c3, rfl⟩ := he1.five
 obtain ⟨k2, d0, d1, d2, d3, rfl⟩ := he2.five
 intro E As
 refine ten Tryz.func120 ?_
 refine sq2 ?_
 refine HL_box rf rf (vs := [_, _, _, _, _]) rf (fun b2 => ?_)
 refine HL_box rf rf (vs := [_, _, _, _, _]) rf (fun b3 => ?_)
 refine sq5 ?_
 refine HL_fieldAddr rf f97_0 rf ?_
 refine HL_load_one rf ty92 rf rdd ?_
 refine HL_fieldAddr rf f97_0 rf ?_
 refine HL_load_one rf ty92 rf rdd ?_
 refine HL_call rf is121 rf (cmpCompare _ _ _ _ _) ?_
 rintro v R' As' ⟨rfl, hle, rfl⟩
 refine sq4 ?_
 refine hqr rf rf ?_
 exact fun w hs => ret_pure hs ttt hle rfl
theorem cmp277 : CmpOk Tryz.prog 277 5 := by
 intro R e1 e2 he1 he2
 obtain ⟨k1, c0, c1, c2, c3, rfl⟩ := he1.five
 obtain ⟨k2, d0, d1, d2, d3, rfl⟩ := he2.five
 intro E As
 refine ten Tryz.func277 ?_
 refine sq2 ?_
 refine HL_box rf rf (vs := [_, _, _, _, _]) rf (fun b2 => ?_)
 refine HL_box rf rf (vs := [_, _, _, _, _]) rf (fun b3 => ?_)
 refine sq5 ?_
 refine HL_fieldAddr rf f97_0 rf ?_
 refine HL_load_one rf ty92 rf rdd ?_
 refine HL_fieldAddr rf f97_0 rf ?_
 refine HL_load_one rf ty92 rf rdd ?_
 refine HL_call rf is121 rf (cmpCompare _ _ _ _ _) ?_
 rintro v R' As' ⟨rfl, hle, rfl⟩
 refine sq4 ?_
 refine hqr rf rf ?_
 exact fun w hs => ret_pure hs ttt hle rfl
end Go.Sx
