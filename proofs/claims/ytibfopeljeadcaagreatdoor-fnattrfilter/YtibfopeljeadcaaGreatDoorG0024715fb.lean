/- Texts that the proofs of the cards rest on, part 1. -/
import Derived.WalkKit
import Derived.Orders
import Derived.Test.YtibfopeljeadcaaGreatDoorProg
import Derived.Conc.Events
/-! A Hoare logic over the model's code: states are a frame (what temporaries hold), a fragment of memory that stays as it is, and a list of blocks that the call owns. Generic: no program is named. -/
namespace Go.Sx
open Go Go.RowKit

/-! ## Memory that stays; memory that is owned -/

abbrev Frag := Nat → Option Obj

def Frag.le (R R' : Frag) : Prop := ∀ b o, R b = some o → R' b = some o

theorem Frag.le_refl (R : Frag) : Frag.le R R := fun _ _ h => h
theorem Frag.le_trans {R R' R'' : Frag} (h : Frag.le R R') (h' : Frag.le R' R'') : Frag.le R R'' := fun b o e => h' b o (h b o e)

structure Env where
  os : Os
  tape : Nat → Question → Nat
  output : Array (Nat × ByteArray)

inductive Ent where
  | emp
  | obj (b : Nat) (o : Obj)

abbrev blk (b : Nat) (cs : List Value) (T : TypeId) : Ent := Ent.obj b (.cells ⟨cs⟩ T (0, 0))

def Ent.id : Ent → Option Nat
  | .emp => none
  | .obj b _ => some b

structure St (E : Env) (w : World) (R : Frag) (As : List Ent) : Prop where
  os : w.os = E.os
  tape : w.tape = E.tape
  output : w.output = E.output
  sees : ∀ b o, R b = some o → w.heap[b]? = some o
  own : ∀ b o, Ent.obj b o ∈ As → w.heap[b]? = some o
  apart : ∀ b o, Ent.obj b o ∈ As → R b = none
  nodup : (As.filterMap Ent.id).Nodup

/-- 'As' holds 'e' somewhere. -/
inductive Mem : List Ent → Ent → Prop
  | here {e l} : Mem (e :: l) e
  | there {x e l} : Mem l e → Mem (x :: l) e

theorem Mem.mem {l : List Ent} {e : Ent} (h : Mem l e) : e ∈ l := by
  induction h with
  | here => exact List.mem_cons_self
  | there _ ih => exact List.mem_cons_of_mem _ ih

/-- 'l' holds 'e' somewhere; 'l'' is 'l' with 'e'' in its place. -/
inductive Sel : List Ent → Ent → Ent → List Ent → Prop
  | here {e e' l} : Sel (e :: l) e e' (e' :: l)
  | there {x e e' l l'} : Sel l e e' l' → Sel (x :: l) e e' (x :: l')

theorem Sel.split {l e e' l'} (h : Sel l e e' l') : ∃ p q, l = p ++ e :: q ∧ l' = p ++ e' :: q := by
  induction h with
  | here => exact ⟨[], _, rfl, rfl⟩
  | there _ ih =>
    obtain ⟨p, q, rfl, rfl⟩ := ih
    exact ⟨_ :: p, q, rfl, rfl⟩

theorem Sel.mem {l e e' l'} (h : Sel l e e' l') : e ∈ l := by
  obtain ⟨p, q, rfl, rfl⟩ := h.split
  simp

/-- 'l'' is 'l' without one 'e'. -/
inductive Out : List Ent → Ent → List Ent → Prop
  | here {e l} : Out (e :: l) e l
  | there {x e l l'} : Out l e l' → Out (x :: l) e (x :: l')

theorem Out.split {l e l'} (h : Out l e l') : ∃ p q, l = p ++ e :: q ∧ l' = p ++ q := by
  induction h with
  | here => exact ⟨[], _, rfl, rfl⟩
  | there _ ih =>
    obtain ⟨p, q, rfl, rfl⟩ := ih
    exact ⟨_ :: p, q, rfl, rfl⟩

/-! ## How a state goes on -/

theorem St.lt {E w R As} (h : St E w R As) {b o} (hb : R b = some o) : b < w.heap.size := by
  have := h.sees b o hb
  exact (Array.getElem?_eq_some_iff.1 this).1

theorem St.lt_own {E w R As} (h : St E w R As) {b o} (hb : Ent.obj b o ∈ As) : b < w.heap.size := by
  have := h.own b o hb
  exact (Array.getElem?_eq_some_iff.1 this).1

theorem St.drew {E w R As} (h : St E w R As) (n : Nat) : St E { w with drawn := n } R As :=
  ⟨h.os, h.tape, h.output, h.sees, h.own, h.apart, h.nodup⟩

/-- A new block. -/
theorem St.push {E w R As} (h : St E w R As) (o : Obj) : St E { w with heap := w.heap.push o } R (.obj w.heap.size o :: As) := by
  refine ⟨h.os, h.tape, h.output, fun b o' hb => ?_, fun b o' hb => ?_, fun b o' hb => ?_, ?_⟩
  · have hlt := h.lt hb
    have := h.sees b o' hb
    simp only [Array.getElem?_push]
    rw [if_neg (by omega)]; exact this
  · simp only [Array.getElem?_push]
    rcases List.mem_cons.1 hb with he | hb
    · injection he with e1 e2
      rw [if_pos e1, e2]
    · have hlt := h.lt_own hb
      rw [if_neg (by omega)]; exact h.own b o' hb
  · rcases List.mem_cons.1 hb with he | hb
    · injection he with e1 e2
      subst e1
      cases hR : R w.heap.size with
      | none => rfl
      | some o2 => exact absurd (h.lt hR) (by omega)
    · exact h.apart b o' hb
  · simp only [List.filterMap_cons, Ent.id]
    refine List.nodup_cons.2 ⟨fun hm => ?_, h.nodup⟩
    obtain ⟨e, he, hid⟩ := List.mem_filterMap.1 hm
    cases e with
    | emp => cases hid
    | obj b o2 =>
      simp only [Ent.id, Option.some.injEq] at hid
      subst hid
      exact absurd (h.lt_own he) (by omega)

theorem mem_replace {p q : List Ent} {e e' x : Ent} (h : x ∈ p ++ e' :: q) : x = e' ∨ x ∈ p ++ q := by
  rcases List.mem_append.1 h with h | h
  · exact .inr (List.mem_append.2 (.inl h))
  · rcases List.mem_cons.1 h with h | h
    · exact .inl h
    · exact .inr (List.mem_append.2 (.inr h))

theorem id_ne {p q : List Ent} {b : Nat} {o : Obj} (hn : ((p ++ Ent.obj b o :: q).filterMap Ent.id).Nodup) {b2 o2}
    (h : Ent.obj b2 o2 ∈ p ++ q) : b2 ≠ b := by
  rintro rfl
  simp only [List.filterMap_append, List.filterMap_cons, Ent.id] at hn
  rw [List.nodup_append] at hn
  obtain ⟨_, h2, h3⟩ := hn
  rcases List.mem_append.1 h with h | h
  · exact h3 b2 (List.mem_filterMap.2 ⟨_, h, rfl⟩) b2 (List.mem_cons_self) rfl
  · exact (List.nodup_cons.1 h2).1 (List.mem_filterMap.2 ⟨_, h, rfl⟩)

/-- A block of one's own is turned. -/
theorem St.turn {E w R As As' b o o'} (h : St E w R As) (hs : Sel As (.obj b o) (.obj b o') As') {w' : World}
    (hos : w'.os = w.os) (ht : w'.tape = w.tape) (hout : w'.output = w.output)
    (hb : w'.heap[b]? = some o') (hold : ∀ k, k ≠ b → w'.heap[k]? = w.heap[k]?) : St E w' R As' := by
  obtain ⟨p, q, rfl, rfl⟩ := hs.split
  have hap := h.apart b o (by simp)
  refine ⟨hos.trans h.os, ht.trans h.tape, hout.trans h.output, fun k o2 hk => ?_, fun k o2 hk => ?_, fun k o2 hk => ?_, ?_⟩
  · rw [hold k (by rintro rfl; rw [hap] at hk; cases hk)]
    exact h.sees k o2 hk
  · rcases mem_replace (e := .obj b o) hk with he | hk
    · injection he with e1 e2
      subst e1; subst e2; exact hb
    · rw [hold k (id_ne h.nodup hk)]
      exact h.own k o2 (by rcases List.mem_append.1 hk with x | x <;> simp [x])
  · rcases mem_replace (e := .obj b o) hk with he | hk
    · injection he with e1 e2
      subst e1; exact hap
    · exact h.apart k o2 (by rcases List.mem_append.1 hk with x | x <;> simp [x])
  · have := h.nodup
    simpa [List.filterMap_append, Ent.id] using this

theorem St.perm {E w R As As'} (h : St E w R As) (hp : As.Perm As') : St E w R As' :=
  ⟨h.os, h.tape, h.output, h.sees, fun b o hb => h.own b o (hp.mem_iff.2 hb), fun b o hb => h.apart b o (hp.mem_iff.2 hb),
    (hp.filterMap Ent.id).nodup_iff.1 h.nodup⟩

/-- What is owned is let go. -/
theorem St.drop {E w R As As' e} (h : St E w R As) (ho : Out As e As') : St E w R As' := by
  obtain ⟨p, q, rfl, rfl⟩ := ho.split
  refine ⟨h.os, h.tape, h.output, h.sees, fun b o hb => h.own b o ?_, fun b o hb => h.apart b o ?_, ?_⟩
  · rcases List.mem_append.1 hb with x | x <;> simp [x]
  · rcases List.mem_append.1 hb with x | x <;> simp [x]
  · have := h.nodup
    simp only [List.filterMap_append, List.filterMap_cons] at this ⊢
    cases he : Ent.id e with
    | none => simpa [he] using this
    | some k =>
      rw [he] at this
      simp only at this
      rw [List.nodup_append] at this ⊢
      refine ⟨this.1, (List.nodup_cons.1 this.2.1).2, fun a ha c hc => this.2.2 a ha c (List.mem_cons_of_mem _ hc)⟩

/-- What is owned is laid down: it stays as it is from here on. -/
theorem St.sealUp {E w R As As' b o} (h : St E w R As) (ho : Out As (.obj b o) As') :
    ∃ R', Frag.le R R' ∧ R' b = some o ∧ St E w R' As' := by
  have hd := h.drop ho
  obtain ⟨p, q, rfl, rfl⟩ := ho.split
  have hap := h.apart b o (by simp)
  have hown := h.own b o (by simp)
  refine ⟨fun k => if k = b then some o else R k, fun k o2 hk => ?_, by simp, ⟨hd.os, hd.tape, hd.output, fun k o2 hk => ?_, hd.own, fun k o2 hk => ?_, hd.nodup⟩⟩
  · by_cases hkb : k = b
    · subst hkb; rw [hap] at hk; cases hk
    · simp [hkb, hk]
  · by_cases hkb : k = b
    · subst hkb; simp at hk; subst hk; exact hown
    · simp [hkb] at hk; exact h.sees k o2 hk
  · have hne := id_ne h.nodup hk
    simp [hne, hd.apart k o2 hk]

theorem St.cell {E w R As b cs T fr} (h : St E w R As) (hm : Ent.obj b (.cells cs T fr) ∈ As) (off : Nat) :
    w.cell? ⟨b, off, none⟩ = cs[off]? := by
  simp [World.cell?, h.own b _ hm]

theorem St.cellR {E w R As b cs T fr} (h : St E w R As) (hm : R b = some (.cells cs T fr)) (off : Nat) :
    w.cell? ⟨b, off, none⟩ = cs[off]? := by
  simp [World.cell?, h.sees b _ hm]

end Go.Sx

/-! The rules of the logic: frames, sequences, branches, loops, calls, results. Generic: no program is named. -/
namespace Go.Sx
open Go Go.RowKit

/-! ## Frames -/

def lk : List (Nat × Value) → Nat → Option Value
  | [], _ => none
  | (k, v) :: t, i => bif Nat.beq k i then some v else lk t i

structure Fr (a : Act) (N : Nat) (F : List (Nat × Value)) : Prop where
  size : a.tmps.size = N
  defers : a.defers = []
  look : ∀ i v, lk F i = some v → a.tmps[i]? = some v

def ev (F : List (Nat × Value)) : Operand → Option Value
  | .tmp t => lk F t
  | .const v => some v
  | .global g => some (.pointer (some ⟨g, 0, none⟩))
  | .func f => some (.func (.func f) #[] #[])

def evs (F : List (Nat × Value)) : List Operand → Option (List Value)
  | [] => some []
  | x :: t => match ev F x, evs F t with
    | some v, some vs => some (v :: vs)
    | _, _ => none

theorem Fr.eval {a N F x v} (h : Fr a N F) (hx : ev F x = some v) : a.eval x = v := by
  cases x with
  | tmp t => simp [Act.eval, h.look t v hx]
  | const v' => simpa [ev, Act.eval] using hx
  | global g => simpa [ev, Act.eval] using hx
  | func f => simpa [ev, Act.eval] using hx

theorem Fr.evals {a N F} (h : Fr a N F) : ∀ {xs vs}, evs F xs = some vs → xs.map a.eval = vs
  | [], vs, hx => by simpa [evs] using hx
  | x :: t, vs, hx => by
    unfold evs at hx
    split at hx
    · rename_i v vs' h1 h2
      injection hx with hx
      subst hx
      simp [h.eval h1, h.evals h2]
    · cases hx

theorem Fr.put {a N F d v} (h : Fr a N F) (hd : Nat.blt d N = true) : Fr (a.put (some d) v) N ((d, v) :: F) := by
  have hd' : d < N := by simpa using hd
  refine ⟨by simp [Act.put, h.size], h.defers, fun i u hi => ?_⟩
  simp only [lk] at hi
  by_cases he : d = i
  · subst he
    simp only [Nat.beq_refl, cond_true, Option.some.injEq] at hi
    subst hi
    simp [Act.put, h.size, hd']
  · have hb : Nat.beq d i = false := by
      cases hb : Nat.beq d i with
      | false => rfl
      | true => exact absurd (Nat.eq_of_beq_eq_true hb) he
    rw [hb] at hi
    simp only [cond_false] at hi
    simp only [Act.put]
    rw [Array.getElem?_setIfInBounds_ne he]
    exact h.look i u hi

/-- F' says no more than F. -/
def Sub (F : List (Nat × Value)) : List (Nat × Value) → Prop
  | [] => True
  | (i, v) :: t => lk F i = some v ∧ Sub F t

theorem Sub.look {F} : ∀ {F'}, Sub F F' → ∀ i v, lk F' i = some v → lk F i = some v
  | [], _, i, v, h => by cases h
  | (k, u) :: t, hs, i, v, h => by
    simp only [lk] at h
    cases hb : Nat.beq k i with
    | true =>
      rw [hb] at h
      simp only [cond_true, Option.some.injEq] at h
      rw [← Nat.eq_of_beq_eq_true hb, ← h]
      exact hs.1
    | false =>
      rw [hb] at h
      exact Sub.look hs.2 i v h

theorem Fr.sub {a N F F'} (h : Fr a N F) (hs : Sub F F') : Fr a N F' := ⟨h.size, h.defers, fun i v hi => h.look i v (hs.look i v hi)⟩

/-! ## The three judgements -/

section
variable (P : Program) (ops : Array Oper) (Q : Exit → Act → World → Prop) (N : Nat) (F : List (Nat × Value)) (E : Env) (R : Frag) (As : List Ent)

def HL (l : List Oper) : Prop := ∀ a w, Fr a N F → St E w R As → wpList P ops Q l a w
def HC (c : Code) : Prop := ∀ a w, Fr a N F → St E w R As → c.wp P Q a w
def HQ (e : Exit) : Prop := ∀ a w, Fr a N F → St E w R As → Q e a w
end

section
variable {P : Program} {ops : Array Oper} {Q : Exit → Act → World → Prop} {N : Nat} {F F' : List (Nat × Value)} {E : Env} {R : Frag} {As As' : List Ent}

theorem HC_sub {c} (F') (hs : Sub F F') (h : HC P Q N F' E R As c) : HC P Q N F E R As c := fun a w ha hs' => h a w (ha.sub hs) hs'
theorem HL_sub {l} (F') (hs : Sub F F') (h : HL P ops Q N F' E R As l) : HL P ops Q N F E R As l := fun a w ha hs' => h a w (ha.sub hs) hs'
theorem HQ_sub {e} (F') (hs : Sub F F') (h : HQ Q N F' E R As e) : HQ Q N F E R As e := fun a w ha hs' => h a w (ha.sub hs) hs'
theorem HC_perm {c} (As') (hp : As.Perm As') (h : HC P Q N F E R As' c) : HC P Q N F E R As c := fun a w ha hs' => h a w ha (hs'.perm hp)
theorem HL_perm {l} (As') (hp : As.Perm As') (h : HL P ops Q N F E R As' l) : HL P ops Q N F E R As l := fun a w ha hs' => h a w ha (hs'.perm hp)
theorem HQ_perm {e} (As') (hp : As.Perm As') (h : HQ Q N F E R As' e) : HQ Q N F E R As e := fun a w ha hs' => h a w ha (hs'.perm hp)
theorem HC_drop {c e As'} (ho : Out As e As') (h : HC P Q N F E R As' c) : HC P Q N F E R As c := fun a w ha hs' => h a w ha (hs'.drop ho)
theorem HL_drop {l e As'} (ho : Out As e As') (h : HL P ops Q N F E R As' l) : HL P ops Q N F E R As l := fun a w ha hs' => h a w ha (hs'.drop ho)
theorem HQ_drop {x e As'} (ho : Out As e As') (h : HQ Q N F E R As' x) : HQ Q N F E R As x := fun a w ha hs' => h a w ha (hs'.drop ho)
theorem HC_seal {c b o As'} (ho : Out As (.obj b o) As') (h : ∀ R', Frag.le R R' → R' b = some o → HC P Q N F E R' As' c) : HC P Q N F E R As c := fun a w ha hs' => by
  obtain ⟨R', h1, h2, h3⟩ := hs'.sealUp ho
  exact h R' h1 h2 a w ha h3
theorem HL_seal {l b o As'} (ho : Out As (.obj b o) As') (h : ∀ R', Frag.le R R' → R' b = some o → HL P ops Q N F E R' As' l) : HL P ops Q N F E R As l := fun a w ha hs' => by
  obtain ⟨R', h1, h2, h3⟩ := hs'.sealUp ho
  exact h R' h1 h2 a w ha h3
theorem HQ_seal {x b o As'} (ho : Out As (.obj b o) As') (h : ∀ R', Frag.le R R' → R' b = some o → HQ Q N F E R' As' x) : HQ Q N F E R As x := fun a w ha hs' => by
  obtain ⟨R', h1, h2, h3⟩ := hs'.sealUp ho
  exact h R' h1 h2 a w ha h3

theorem HL_nil (h : HQ Q N F E R As .normal) : HL P ops Q N F E R As [] := h

/-! ### Code -/

theorem HC_region {id : Nat} {l : List Oper} (h : HL P l.toArray Q N F E R As l) : HC P Q N F E R As (.region id l.toArray false) :=
  fun a w ha hs => wp_region_lit (h a w ha hs)
theorem HC_seq {x y : Code} (h : HC P (Exit.then (y.wp P Q) Q) N F E R As x) : HC P Q N F E R As (.seq x y) :=
  fun a w ha hs => wp_seq (h a w ha hs)
theorem HC_block {id : Nat} {c : Code} (h : HC P (Exit.inBlock id Q) N F E R As c) : HC P Q N F E R As (.block id c) :=
  fun a w ha hs => wp_block (h a w ha hs)
theorem HC_skip (h : HQ Q N F E R As .normal) : HC P Q N F E R As .skip := fun a w ha hs => wp_skip (h a w ha hs)
theorem HC_exit {id : Nat} (h : HQ Q N F E R As (.exit id)) : HC P Q N F E R As (.exit id) := fun a w ha hs => wp_exit (h a w ha hs)
theorem HC_ret (h : HQ Q N F E R As .ret) : HC P Q N F E R As .ret := fun a w ha hs => wp_ret (h a w ha hs)
theorem HC_cond {x : Operand} {b : Bool} {c d : Code} (hx : ev F x = some (.bool b)) (ht : b = true → HC P Q N F E R As c) (hf : b = false → HC P Q N F E R As d) :
    HC P Q N F E R As (.cond x c d) := fun a w ha hs => wp_cond_split (ha.eval hx) (fun e => ht e a w ha hs) (fun e => hf e a w ha hs)
theorem HC_cond_t {x : Operand} {c d : Code} (hx : ev F x = some (.bool true)) (h : HC P Q N F E R As c) :
    HC P Q N F E R As (.cond x c d) := fun a w ha hs => wp_cond_true (ha.eval hx) (h a w ha hs)
theorem HC_cond_f {x : Operand} {c d : Code} (hx : ev F x = some (.bool false)) (h : HC P Q N F E R As d) :
    HC P Q N F E R As (.cond x c d) := fun a w ha hs => wp_cond_false (ha.eval hx) (h a w ha hs)

theorem HQ_then {y : Code} (h : HC P Q N F E R As y) : HQ (Exit.then (y.wp P Q) Q) N F E R As .normal := h
theorem HQ_then_exit {K : Act → World → Prop} {id : Nat} (h : HQ Q N F E R As (.exit id)) : HQ (Exit.then K Q) N F E R As (.exit id) := h
theorem HQ_then_ret {K : Act → World → Prop} (h : HQ Q N F E R As .ret) : HQ (Exit.then K Q) N F E R As .ret := h
theorem HQ_block {id : Nat} (h : HQ Q N F E R As .normal) : HQ (Exit.inBlock id Q) N F E R As .normal := h
theorem HQ_block_same {id : Nat} (h : HQ Q N F E R As .normal) : HQ (Exit.inBlock id Q) N F E R As (.exit id) := fun a w ha hs => by
  simp only [Exit.inBlock, if_true]; exact h a w ha hs
theorem HQ_block_other {id id' : Nat} (hne : Nat.beq id' id = false) (h : HQ Q N F E R As (.exit id')) : HQ (Exit.inBlock id Q) N F E R As (.exit id') := fun a w ha hs => by
  have : ¬ id' = id := fun e => by subst e; simp at hne
  simp only [Exit.inBlock, this, if_false]; exact h a w ha hs
theorem HQ_block_ret {id : Nat} (h : HQ Q N F E R As .ret) : HQ (Exit.inBlock id Q) N F E R As .ret := h

/-! ### A loop -/

/-- What a round ends in. -/
def LI (Inv : List (Nat × Value) → Frag → List Ent → Nat → Prop) (N : Nat) (E : Env) (m : Nat) (a : Act) (w : World) : Prop :=
  ∃ F R As m', m' < m ∧ Inv F R As m' ∧ Fr a N F ∧ St E w R As

theorem HC_loop {body : Code} (Inv : List (Nat × Value) → Frag → List Ent → Nat → Prop) (F₀ : List (Nat × Value)) (As₀ : List Ent) (m₀ : Nat)
    (hsub : Sub F F₀) (hperm : As.Perm As₀) (h₀ : Inv F₀ R As₀ m₀)
    (round : ∀ F R As m, Inv F R As m → HC P (Exit.then (LI Inv N E m) Q) N F E R As body) : HC P Q N F E R As (.loop body) := by
  intro a w ha hs b k cs
  have key : ∀ n a w m, m = n → (∃ F R As, Inv F R As m ∧ Fr a N F ∧ St E w R As) →
      ∃ e a' w', Q e a' w' ∧ Arrives P (lone (b.at a (.code body :: .inLoop body :: k)) cs w) b k cs e a' w' := by
    intro n
    induction n using Nat.strongRecOn with
    | _ n ih =>
      intro a w m hm ⟨F, R, As, hI, hF, hS⟩
      obtain ⟨e, a₁, w₁, hq, harr⟩ := round F R As m hI a w hF hS b (.inLoop body :: k) cs
      cases e with
      | normal =>
        obtain ⟨F', R', As', m', hlt, hI', hF', hS'⟩ := hq
        obtain ⟨e₂, a₂, w₂, hq₂, harr₂⟩ := ih m' (hm ▸ hlt) a₁ w₁ m' rfl ⟨F', R', As', hI', hF', hS'⟩
        exact ⟨e₂, a₂, w₂, hq₂, .of_steps (Steps.trans harr (.one step_inLoop)) harr₂⟩
      | exit id => exact ⟨_, a₁, w₁, hq, .pass (x := .inLoop body) rfl (fun _ _ => .inl (by simp)) harr⟩
      | goto l => exact ⟨_, a₁, w₁, hq, .pass (x := .inLoop body) rfl (fun _ _ => .inl (by simp)) harr⟩
      | ret => exact ⟨_, a₁, w₁, hq, .pass (x := .inLoop body) rfl (fun _ _ => .inl (by simp)) harr⟩
      | panic ch => exact ⟨_, a₁, w₁, hq, .pass (x := .inLoop body) rfl (fun _ _ => .inl (by simp)) harr⟩
      | outgrown => exact ⟨_, a₁, w₁, hq, .pass (x := .inLoop body) rfl (fun _ _ => .inl (by simp)) harr⟩
  obtain ⟨e, a', w', hq, harr⟩ := key m₀ a w m₀ rfl ⟨F₀, R, As₀, h₀, ha.sub hsub, hs.perm hperm⟩
  exact ⟨e, a', w', hq, .of_steps (.one step_loop) harr⟩

/-- The end of a round. -/
theorem HQ_loop {Inv : List (Nat × Value) → Frag → List Ent → Nat → Prop} {m : Nat} (F₀ : List (Nat × Value)) (As₀ : List Ent) (m₀ : Nat)
    (hlt : m₀ < m) (hsub : Sub F F₀) (hperm : As.Perm As₀) (h₀ : Inv F₀ R As₀ m₀) : HQ (Exit.then (LI Inv N E m) Q) N F E R As .normal :=
  fun _ _ ha hs => ⟨F₀, R, As₀, m₀, hlt, h₀, ha.sub hsub, hs.perm hperm⟩

/-! ### Operations: what they have in common -/

theorem wp_value {o : Oper} {a : Act} {w w' : World} {v : Value} {rest : List Oper} (hg : o.guard = none)
    (hr : (execOp a.eval o).run P w = .ok (.value v) w') (h : wpList P ops Q rest (a.put o.dst v) w') : wpList P ops Q (o :: rest) a w :=
  wpList_plain hg fun K hK => by
    unfold Oper.wp
    rw [hr]
    exact hK _ _ h

theorem wp_none {o : Oper} {a : Act} {w w' : World} {rest : List Oper} (hg : o.guard = none)
    (hr : (execOp a.eval o).run P w = .ok .skip w') (h : wpList P ops Q rest (a.put o.dst undef) w') : wpList P ops Q (o :: rest) a w :=
  wpList_plain hg fun K hK => by
    unfold Oper.wp
    rw [hr]
    exact hK _ _ h

/-- An operation that yields a value. -/
theorem HL_val {d : Nat} {v : Value} {op : Op} {ty : TypeId} {pos : String} {af : Array Edge} {l : List Oper} {R' : Frag} (hd : Nat.blt d N = true)
    (h : ∀ a w, Fr a N F → St E w R As → ∃ w', (execOp a.eval ⟨some d, op, ty, pos, af, none⟩).run P w = .ok (.value v) w' ∧ St E w' R' As')
    (k : HL P ops Q N ((d, v) :: F) E R' As' l) : HL P ops Q N F E R As (⟨some d, op, ty, pos, af, none⟩ :: l) := fun a w ha hs => by
  obtain ⟨w', hr, hs'⟩ := h a w ha hs
  exact wp_value rfl hr (k _ _ (ha.put hd) hs')

/-- An operation that yields a value and leaves the world alone. -/
theorem HL_same {d : Nat} {v : Value} {op : Op} {ty : TypeId} {pos : String} {af : Array Edge} {l : List Oper} (hd : Nat.blt d N = true)
    (h : ∀ a w, Fr a N F → St E w R As → (execOp a.eval ⟨some d, op, ty, pos, af, none⟩).run P w = .ok (.value v) w)
    (k : HL P ops Q N ((d, v) :: F) E R As l) : HL P ops Q N F E R As (⟨some d, op, ty, pos, af, none⟩ :: l) :=
  HL_val hd (fun a w ha hs => ⟨w, h a w ha hs, hs⟩) k

/-- An operation that yields some value. -/
theorem HL_valE {d : Nat} {op : Op} {ty : TypeId} {pos : String} {af : Array Edge} {l : List Oper} (Post : Value → Frag → List Ent → Prop) (hd : Nat.blt d N = true)
    (h : ∀ a w, Fr a N F → St E w R As → ∃ v R' As' w', (execOp a.eval ⟨some d, op, ty, pos, af, none⟩).run P w = .ok (.value v) w' ∧ St E w' R' As' ∧ Post v R' As')
    (k : ∀ v R' As', Post v R' As' → HL P ops Q N ((d, v) :: F) E R' As' l) : HL P ops Q N F E R As (⟨some d, op, ty, pos, af, none⟩ :: l) := fun a w ha hs => by
  obtain ⟨v, R', As', w', hr, hs', hp⟩ := h a w ha hs
  exact wp_value rfl hr (k v R' As' hp _ _ (ha.put hd) hs')

/-- An operation that yields nothing. -/
theorem HL_none {op : Op} {ty : TypeId} {pos : String} {af : Array Edge} {l : List Oper}
    (h : ∀ a w, Fr a N F → St E w R As → ∃ w', (execOp a.eval ⟨none, op, ty, pos, af, none⟩).run P w = .ok .skip w' ∧ St E w' R As')
    (k : HL P ops Q N F E R As' l) : HL P ops Q N F E R As (⟨none, op, ty, pos, af, none⟩ :: l) := fun a w ha hs => by
  obtain ⟨w', hr, hs'⟩ := h a w ha hs
  exact wp_none rfl hr (k _ _ ha hs')

/-- A guarded operation: whether it is carried out. -/
theorem HL_guard_yes {d : Option Nat} {op : Op} {ty : TypeId} {pos : String} {af : Array Edge} {l : List Oper} {j t : Nat} {b : Bool}
    (hj : (ops[j]?).bind (·.dst) = some t) (ht : lk F t = some (.bool b))
    (k : HL P ops Q N F E R As (⟨d, op, ty, pos, af, none⟩ :: l)) : HL P ops Q N F E R As (⟨d, op, ty, pos, af, some (j, b)⟩ :: l) := fun a w ha hs => by
  have h := k a w ha hs
  have hy : Region.wanted ⟨d, op, ty, pos, af, some (j, b)⟩ (yielded ops a.tmps) = true := by
    simp [Region.wanted, yielded, hj, ha.look t _ ht]
  unfold wpList at h ⊢
  rw [if_pos hy]
  rw [if_pos (by simp [Region.wanted])] at h
  exact h

theorem HL_guard_no {d : Nat} {op : Op} {ty : TypeId} {pos : String} {af : Array Edge} {l : List Oper} {j t : Nat} {b b' : Bool} (hd : Nat.blt d N = true)
    (hj : (ops[j]?).bind (·.dst) = some t) (ht : lk F t = some (.bool b')) (hne : (b' == b) = false)
    (k : HL P ops Q N ((d, undef) :: F) E R As l) : HL P ops Q N F E R As (⟨some d, op, ty, pos, af, some (j, b)⟩ :: l) := fun a w ha hs => by
  have hy : Region.wanted ⟨some d, op, ty, pos, af, some (j, b)⟩ (yielded ops a.tmps) = false := by
    simp only [Region.wanted, yielded, hj, Option.bind_some, ha.look t _ ht]
    cases b <;> cases b' <;> simp_all
  unfold wpList
  rw [if_neg (by rw [hy]; simp)]
  exact k _ _ (ha.put hd) hs

theorem HL_guard_no0 {op : Op} {ty : TypeId} {pos : String} {af : Array Edge} {l : List Oper} {j t : Nat} {b b' : Bool}
    (hj : (ops[j]?).bind (·.dst) = some t) (ht : lk F t = some (.bool b')) (hne : (b' == b) = false)
    (k : HL P ops Q N F E R As l) : HL P ops Q N F E R As (⟨none, op, ty, pos, af, some (j, b)⟩ :: l) := fun a w ha hs => by
  have hy : Region.wanted ⟨none, op, ty, pos, af, some (j, b)⟩ (yielded ops a.tmps) = false := by
    simp only [Region.wanted, yielded, hj, Option.bind_some, ha.look t _ ht]
    cases b <;> cases b' <;> simp_all
  unfold wpList
  rw [if_neg (by rw [hy]; simp)]
  exact k _ _ ha hs

/-! ### Calls -/

/-- What a call does, from a state. -/
def Tri (P : Program) (f : FuncId) (vs : List Value) (E : Env) (R : Frag) (As : List Ent) (Post : Value → Frag → List Ent → Prop) : Prop :=
  ∀ w, St E w R As → Calls P f vs.toArray w fun e w' => ∃ v R' As', e = .returned v ∧ St E w' R' As' ∧ Post v R' As'

theorem Tri.mono {f vs} {Post Post' : Value → Frag → List Ent → Prop} (h : Tri P f vs E R As Post) (hp : ∀ v R' As', Post v R' As' → Post' v R' As') : Tri P f vs E R As Post' :=
  fun w hs => (h w hs).mono fun _ _ ⟨v, R', As', he, hs', hq⟩ => ⟨v, R', As', he, hs', hp _ _ _ hq⟩

/-- A function that has a body. -/
def IsFn (P : Program) (f : FuncId) : Prop := ∃ fn, P.funcs[f]? = some fn ∧ (fn.name == "runtime.NumGoroutine") = false ∧ fn.body.isNone = false

theorem IsFn.run {f : FuncId} (h : IsFn P f) (args : Array Value) (w : World) : (callFunc f args).run P w = .ok (.enter f args) w := by
  obtain ⟨fn, h1, h2, h3⟩ := h
  have h2' : ¬ fn.name = "runtime.NumGoroutine" := by simpa using h2
  have h3' : ¬ fn.body = none := fun e => by simp [e] at h3
  simp [callFunc, h1, h2', h3']

theorem HL_call_gen {d : Nat} {op : Op} {ty : TypeId} {pos : String} {af : Array Edge} {l : List Oper} {f : FuncId} {vs : List Value} {Post : Value → Frag → List Ent → Prop}
    (hd : Nat.blt d N = true)
    (hop : ∀ a w, Fr a N F → St E w R As → (execOp a.eval ⟨some d, op, ty, pos, af, none⟩).run P w = .ok (.enter f vs.toArray) w)
    (hc : Tri P f vs E R As Post) (k : ∀ v R' As', Post v R' As' → HL P ops Q N ((d, v) :: F) E R' As' l) :
    HL P ops Q N F E R As (⟨some d, op, ty, pos, af, none⟩ :: l) := fun a w ha hs =>
  wpList_plain rfl fun K hK => by
    unfold Oper.wp
    rw [hop a w ha hs]
    refine (hc w hs).mono fun e w' ⟨v, R', As', he, hs', hp⟩ => ?_
    subst he
    exact hK _ _ (k v R' As' hp _ _ (ha.put hd) hs')

theorem HL_call_gen0 {op : Op} {ty : TypeId} {pos : String} {af : Array Edge} {l : List Oper} {f : FuncId} {vs : List Value} {Post : Value → Frag → List Ent → Prop}
    (hop : ∀ a w, Fr a N F → St E w R As → (execOp a.eval ⟨none, op, ty, pos, af, none⟩).run P w = .ok (.enter f vs.toArray) w)
    (hc : Tri P f vs E R As Post) (k : ∀ v R' As', Post v R' As' → HL P ops Q N F E R' As' l) :
    HL P ops Q N F E R As (⟨none, op, ty, pos, af, none⟩ :: l) := fun a w ha hs =>
  wpList_plain rfl fun K hK => by
    unfold Oper.wp
    rw [hop a w ha hs]
    refine (hc w hs).mono fun e w' ⟨v, R', As', he, hs', hp⟩ => ?_
    subst he
    exact hK _ _ (k v R' As' hp _ _ ha hs')

theorem run_call {ρ : Operand → Value} {d ty pos af} {f : FuncId} {xs : List Operand} {ats : Array TypeId} {vs : List Value} (hf : IsFn P f) (hx : xs.map ρ = vs) (w : World) :
    (execOp ρ ⟨d, .call ⟨.value (.func f), xs.toArray, ats⟩, ty, pos, af, none⟩).run P w = .ok (.enter f vs.toArray) w ∨ ρ (.func f) ≠ .func (.func f) #[] #[] := by
  by_cases hρ : ρ (.func f) = .func (.func f) #[] #[]
  · left
    simp [execOp, resolve, Deferred.ofValue, invoke, hρ, hf.run, hx]
  · exact .inr hρ

/-- A call of a function that the program's text names. -/
theorem HL_call {d : Nat} {ty : TypeId} {pos : String} {af : Array Edge} {l : List Oper} {f : FuncId} {xs : List Operand} {ats : Array TypeId} {vs : List Value} {Post : Value → Frag → List Ent → Prop}
    (hd : Nat.blt d N = true) (hf : IsFn P f) (hx : evs F xs = some vs)
    (hc : Tri P f vs E R As Post) (k : ∀ v R' As', Post v R' As' → HL P ops Q N ((d, v) :: F) E R' As' l) :
    HL P ops Q N F E R As (⟨some d, .call ⟨.value (.func f), xs.toArray, ats⟩, ty, pos, af, none⟩ :: l) :=
  HL_call_gen hd (fun a w ha _ => (run_call hf (ha.evals hx) w).resolve_right (by simp [Act.eval])) hc k
theorem HL_call0 {ty : TypeId} {pos : String} {af : Array Edge} {l : List Oper} {f : FuncId} {xs : List Operand} {ats : Array TypeId} {vs : List Value} {Post : Value → Frag → List Ent → Prop}
    (hf : IsFn P f) (hx : evs F xs = some vs)
    (hc : Tri P f vs E R As Post) (k : ∀ v R' As', Post v R' As' → HL P ops Q N F E R' As' l) :
    HL P ops Q N F E R As (⟨none, .call ⟨.value (.func f), xs.toArray, ats⟩, ty, pos, af, none⟩ :: l) :=
  HL_call_gen0 (fun a w ha _ => (run_call hf (ha.evals hx) w).resolve_right (by simp [Act.eval])) hc k

/-- A call of a function value. -/
theorem HL_callv {d : Nat} {ty : TypeId} {pos : String} {af : Array Edge} {l : List Oper} {f : FuncId} {y : Operand} {xs : List Operand} {ats : Array TypeId} {us ws vs : List Value} {Post : Value → Frag → List Ent → Prop}
    (hd : Nat.blt d N = true) (hf : IsFn P f) (hnf : ∀ g, y ≠ .func g) (hy : ev F y = some (.func (.func f) us.toArray ws.toArray)) (hx : evs F xs = some vs)
    (hc : Tri P f (us ++ vs ++ ws) E R As Post) (k : ∀ v R' As', Post v R' As' → HL P ops Q N ((d, v) :: F) E R' As' l) :
    HL P ops Q N F E R As (⟨some d, .call ⟨.value y, xs.toArray, ats⟩, ty, pos, af, none⟩ :: l) :=
  HL_call_gen hd (fun a w ha _ => by
    simp [execOp, resolve, Deferred.ofValue, invoke, ha.eval hy, hf.run, ha.evals hx]) hc k

/-! ### Functions -/

def frame0 (vs : List Value) : List (Nat × Value) := vs.zipIdx.map fun (v, i) => (i, v)

theorem lk_zip (vs : List Value) (n : Nat) : ∀ i v, lk ((vs.zipIdx n).map fun (v, i) => (i, v)) i = some v → n ≤ i ∧ vs[i - n]? = some v := by
  induction vs generalizing n with
  | nil => intro i v h; cases h
  | cons x t ih =>
    intro i v h
    simp only [List.zipIdx_cons, List.map_cons, lk] at h
    cases hb : Nat.beq n i with
    | true =>
      rw [hb] at h
      simp only [cond_true, Option.some.injEq] at h
      have := Nat.eq_of_beq_eq_true hb
      subst this
      simp [h]
    | false =>
      rw [hb] at h
      simp only [cond_false] at h
      obtain ⟨h1, h2⟩ := ih (n + 1) i v h
      refine ⟨by omega, ?_⟩
      obtain ⟨j, rfl⟩ : ∃ j, i = n + 1 + j := ⟨i - (n + 1), by omega⟩
      have e1 : n + 1 + j - n = j + 1 := by omega
      have e2 : n + 1 + j - (n + 1) = j := by omega
      rw [e1]; rw [e2] at h2
      simpa using h2

theorem Tri_enter {f : FuncId} {fn : Func} {c : Code} {vs : List Value} {Post : Value → Frag → List Ent → Prop} (hf : P.funcs[f]? = some fn) (hb : fn.body = some c) (hN : fn.ntmps = N)
    (hlen : Nat.ble vs.length N = true) (R : Frag) (As : List Ent)
    (h : HC P (bodyPost P fn fun e w' => ∃ v R' As', e = .returned v ∧ St E w' R' As' ∧ Post v R' As') N (frame0 vs) E R As c) : Tri P f vs E R As Post := fun w hs => by
  have hlen' : vs.length ≤ N := by simpa using hlen
  refine calls_of_wp hf hb (h _ w ⟨by simp; omega, rfl, fun i v hi => ?_⟩ hs)
  obtain ⟨_, h2⟩ := lk_zip vs 0 i v hi
  simp only [Nat.sub_zero] at h2
  have hi' : i < vs.length := (List.getElem?_eq_some_iff.1 h2).1
  rw [Array.getElem?_append_left (by simpa using hi')]
  simpa using h2

/-- A return: the results are in temporaries. -/
theorem HQ_ret {fn : Func} {Rp : Ending → World → Prop} {e : Exit} (he : e = .ret ∨ e = .normal) (v : Value)
    (hr : ∀ a w, Fr a N F → St E w R As → (results fn a.tmps).run P w = .ok v w) (h : ∀ w, St E w R As → Rp (.returned v) w) : HQ (bodyPost P fn Rp) N F E R As e := by
  rcases he with rfl | rfl <;> exact fun a w ha hs => ⟨ha.defers, v, hr a w ha hs, h w hs⟩

theorem run_results_tmp {fn : Func} {t : Nat} {v : Value} (hres : fn.results = #[.tmp t]) (ht : lk F t = some v) (a : Act) (w : World) (ha : Fr a N F) :
    (results fn a.tmps).run P w = .ok v w := by
  rw [results_tmp hres]
  simp [ha.look t v ht]
theorem run_results_tmp2 {fn : Func} {t u : Nat} {v x : Value} (hres : fn.results = #[.tmp t, .tmp u]) (ht : lk F t = some v) (hu : lk F u = some x) (a : Act) (w : World) (ha : Fr a N F) :
    (results fn a.tmps).run P w = .ok (.tuple #[v, x]) w := by
  rw [results_tmp2 hres]
  simp [ha.look t v ht, ha.look u x hu]

end
end Go.Sx

/-! The rules of the logic: operations, one rule each. Generic: no program is named. -/
namespace Go.Sx
open Go Go.RowKit

/-! ## What is asked of types: closed facts -/

def aggD : TypeDesc → Bool
  | .struct _ | .array _ _ => true
  | _ => false

structure Ty (P : Program) (T : TypeId) (agg : Bool) (n : Nat) : Prop where
  und : ∃ d, P.underlying T = some d ∧ aggD d = agg
  info : ∃ i, P.info? T = some i ∧ i.size = n
def TyZ (P : Program) (T : TypeId) (z : Value) : Prop := ∃ i, P.info? T = some i ∧ i.zero = some z
def TyB (P : Program) (T : TypeId) (n : Nat) : Prop := ∃ i, P.info? T = some i ∧ i.bytes = n
def Fld (P : Program) (T : TypeId) (f off : Nat) : Prop :=
  ∃ fs fd i, P.underlying T = some (.struct fs) ∧ fs[f]? = some fd ∧ fd.offset = off ∧ P.info? fd.type = some i ∧ i.size ≠ 0

section
variable {P : Program} {w : World}

theorem Ty.run_isAgg {T agg n} (h : Ty P T agg n) : (isAgg T).run P w = .ok agg w := by
  obtain ⟨d, h1, h2⟩ := h.und
  subst h2
  cases d <;> simp [isAgg, underlying, h1, aggD]
theorem Ty.run_sizeOf {T agg n} (h : Ty P T agg n) : (sizeOf T).run P w = .ok n w := by
  obtain ⟨i, h1, h2⟩ := h.info
  simp [sizeOf, typeInfo, h1, h2]
theorem TyZ.run_zero {T z} (h : TyZ P T z) : (zeroValue T).run P w = .ok z w := by
  obtain ⟨i, h1, h2⟩ := h
  simp [zeroValue, typeInfo, h1, h2]
theorem run_underlying' {T d} (h : P.underlying T = some d) : (underlying T).run P w = .ok d w := by
  simp [underlying, h]

/-! ## Cells -/

def cut : List Value → Nat → Nat → Option (List Value)
  | _, 0, 0 => some []
  | [], 0, _ + 1 => none
  | c :: cs, 0, n + 1 => (cut cs 0 n).map (c :: ·)
  | [], _ + 1, _ => none
  | _ :: cs, k + 1, n => cut cs k n

def spl : List Value → Nat → List Value → List Value
  | [], _, _ => []
  | c :: cs, 0, [] => c :: cs
  | _ :: cs, 0, v :: vs => v :: spl cs 0 vs
  | c :: cs, k + 1, vs => c :: spl cs k vs

theorem cut_eq : ∀ (cs : List Value) (off n : Nat) (vs : List Value), cut cs off n = some vs ↔ off + n ≤ cs.length ∧ vs = (cs.drop off).take n := by
  intro cs off n
  induction cs generalizing off n with
  | nil =>
    intro vs
    cases off <;> cases n <;> simp [cut, eq_comm]
  | cons c cs ih =>
    intro vs
    cases off with
    | zero =>
      cases n with
      | zero => simp [cut, eq_comm]
      | succ n =>
        simp only [cut, Option.map_eq_some_iff]
        constructor
        · rintro ⟨vs', h, rfl⟩
          obtain ⟨h1, h2⟩ := (ih 0 n vs').1 h
          refine ⟨by simp; omega, by simp [h2]⟩
        · rintro ⟨h1, rfl⟩
          refine ⟨_, (ih 0 n _).2 ⟨by simp at h1; omega, rfl⟩, by simp⟩
    | succ off =>
      simp only [cut]
      rw [ih off n vs]
      simp
      omega

theorem spl_nil (cs : List Value) (off : Nat) : spl cs off [] = cs := by
  induction cs generalizing off with
  | nil => cases off <;> rfl
  | cons c cs ih => cases off <;> simp [spl, ih]

theorem length_spl (cs : List Value) (off : Nat) (vs : List Value) : (spl cs off vs).length = cs.length := by
  induction cs generalizing off vs with
  | nil => cases off <;> cases vs <;> rfl
  | cons c cs ih => cases off <;> cases vs <;> simp [spl, ih]

theorem spl_get (cs : List Value) (off : Nat) (vs : List Value) (i : Nat) :
    (spl cs off vs)[i]? = if off ≤ i ∧ i < off + vs.length ∧ i < cs.length then vs[i - off]? else cs[i]? := by
  induction cs generalizing off vs i with
  | nil => cases off <;> cases vs <;> simp [spl]
  | cons c cs ih =>
    cases off with
    | zero =>
      cases vs with
      | nil => simp [spl]
      | cons v vs =>
        cases i with
        | zero => simp [spl]
        | succ i =>
          simp only [spl, List.getElem?_cons_succ, ih]
          simp
    | succ off =>
      cases i with
      | zero => simp [spl]
      | succ i =>
        simp only [spl, List.getElem?_cons_succ, ih, List.length_cons]
        have e : i + 1 - (off + 1) = i - off := by omega
        rw [e]
        by_cases h : off ≤ i ∧ i < off + vs.length ∧ i < cs.length
        · rw [if_pos h, if_pos (by omega)]
        · rw [if_neg h, if_neg (by omega)]

theorem spl_step (cs : List Value) (off : Nat) (v : Value) (vs : List Value) : spl (cs.set off v) (off + 1) vs = spl cs off (v :: vs) := by
  apply List.ext_getElem?
  intro i
  rw [spl_get, spl_get]
  simp only [List.length_set, List.length_cons]
  by_cases h1 : i = off
  · subst h1
    by_cases h2 : i < cs.length
    · rw [if_neg (by omega), if_pos (by omega)]
      simp [h2]
    · rw [if_neg (by omega), if_neg (by omega)]
      rw [List.getElem?_eq_none (by simp; omega), List.getElem?_eq_none (by omega)]
  · have h3 : (cs.set off v)[i]? = cs[i]? := by rw [List.getElem?_set_ne (by omega)]
    rw [h3]
    by_cases h : off + 1 ≤ i ∧ i < off + 1 + vs.length ∧ i < cs.length
    · rw [if_pos h, if_pos (by omega)]
      obtain ⟨j, rfl⟩ : ∃ j, i = off + 1 + j := ⟨i - (off + 1), by omega⟩
      have e1 : off + 1 + j - (off + 1) = j := by omega
      have e2 : off + 1 + j - off = j + 1 := by omega
      rw [e1, e2]; simp
    · rw [if_neg h, if_neg (by omega)]

theorem Addr.add_mk (b o n : Nat) : (⟨b, o, none⟩ : Addr).add n = ⟨b, o + n, none⟩ := by
  unfold Addr.add
  split
  · rename_i h; subst h; rfl
  · rfl

def ones (vs : List Value) : Bool := vs.all Value.oneCell'

/-- Cells that may be read: at a block of one's own, or at one that stays. -/
inductive Rd (As : List Ent) (R : Frag) (b off n : Nat) (vs : List Value) : Prop
  | own {cs T fr} : Mem As (.obj b (.cells ⟨cs⟩ T fr)) → cut cs off n = some vs → Rd As R b off n vs
  | fix {cs T fr} : R b = some (.cells ⟨cs⟩ T fr) → cut cs off n = some vs → Rd As R b off n vs

/-- Cells that stay. -/
def RdR (R : Frag) (b off n : Nat) (vs : List Value) : Prop := ∃ cs T fr, R b = some (.cells ⟨cs⟩ T fr) ∧ cut cs off n = some vs
theorem RdR.rd {As : List Ent} {R b off n vs} (h : RdR R b off n vs) : Rd As R b off n vs := by
  obtain ⟨cs, T, fr, h1, h2⟩ := h
  exact .fix h1 h2
theorem RdR.mono {R R' : Frag} (hle : Frag.le R R') {b off n vs} (h : RdR R b off n vs) : RdR R' b off n vs := by
  obtain ⟨cs, T, fr, h1, h2⟩ := h
  exact ⟨cs, T, fr, hle _ _ h1, h2⟩

theorem Rd.cells {E As R b off n vs} (h : Rd As R b off n vs) (hs : St E w R As) (j : Nat) (v : Value) (hv : vs[j]? = some v) : w.cell? ⟨b, off + j, none⟩ = some v := by
  have main : ∀ cs : List Value, cut cs off n = some vs → cs[off + j]? = some v := by
    intro cs hc
    obtain ⟨h1, rfl⟩ := (cut_eq _ _ _ _).1 hc
    rw [List.getElem?_take] at hv
    split at hv
    · rw [List.getElem?_drop] at hv; exact hv
    · cases hv
  cases h with
  | own hm hc => rw [hs.cell hm.mem]; simpa using main _ hc
  | fix hm hc => rw [hs.cellR hm]; simpa using main _ hc

theorem Rd.len {As R b off n vs} (h : Rd As R b off n vs) : vs.length = n := by
  have main : ∀ cs : List Value, cut cs off n = some vs → vs.length = n := by
    intro cs hc
    obtain ⟨h1, rfl⟩ := (cut_eq _ _ _ _).1 hc
    simp; omega
  cases h with
  | own hm hc => exact main _ hc
  | fix hm hc => exact main _ hc

theorem run_loadCells_rd {E As R b off n vs} (h : Rd As R b off n vs) (hs : St E w R As) : (loadCells ⟨b, off, none⟩ n).run P w = .ok vs.toArray w := by
  have := run_loadCells_list (P := P) w ⟨b, off, none⟩ vs (fun j v hv => by rw [Addr.add_mk]; exact h.cells hs j v hv)
  rwa [h.len] at this

theorem run_loadVar_agg {E As R b off n vs T} (hT : Ty P T true n) (h : Rd As R b off n vs) (hs : St E w R As) : (loadVar T ⟨b, off, none⟩).run P w = .ok (.agg vs.toArray) w := by
  simp [loadVar, hT.run_isAgg, hT.run_sizeOf, run_loadCells_rd h hs]
theorem run_loadVar_one {E As R b off n v T} (hT : Ty P T false n) (h : Rd As R b off 1 [v]) (hs : St E w R As) : (loadVar T ⟨b, off, none⟩).run P w = .ok v w := by
  have hc := h.cells hs 0 v rfl
  simp only [Nat.add_zero] at hc
  simp [loadVar, hT.run_isAgg, hc]

/-! ## Stores -/

theorem storeCells_run (vs : List Value) : ∀ (w : World) (b off i : Nat) (cs : List Value) (T : TypeId), w.heap[b]? = some (.cells ⟨cs⟩ T (0, 0)) → off + i + vs.length ≤ cs.length → ones vs = true →
    ∃ w', (storeCells ⟨b, off, none⟩ vs i).run P w = .ok () w' ∧ w'.os = w.os ∧ w'.tape = w.tape ∧ w'.output = w.output ∧
      w'.heap[b]? = some (.cells ⟨spl cs (off + i) vs⟩ T (0, 0)) ∧ ∀ k, k ≠ b → w'.heap[k]? = w.heap[k]? := by
  induction vs with
  | nil =>
    intro w b off i cs T hb _ _
    refine ⟨w, by simp [storeCells], rfl, rfl, rfl, ?_, fun _ _ => rfl⟩
    rw [spl_nil]; exact hb
  | cons v vs ih =>
    intro w b off i cs T hb hl ho
    simp only [ones, List.all_cons, Bool.and_eq_true] at ho
    simp only [List.length_cons] at hl
    have hcell : w.cell? ⟨b, off + i, none⟩ = some (cs[off + i]'(by omega)) := by
      have h := cell_of_row w b (off + i) ⟨cs⟩ T (0, 0) hb
      rw [h]; simp
    have hfz : w.frozen? ⟨b, off + i, none⟩ = false := frozen_of_row w b (off + i) _ T hb
    have hset := heap_setCell_same w b (off + i) ⟨cs⟩ T v hb
    have hset' : (w.setCell ⟨b, off + i, none⟩ v).heap[b]? = some (.cells ⟨cs.set (off + i) v⟩ T (0, 0)) := by
      rw [hset]; simp
    obtain ⟨w', h1, h2, h3, h4, h5, h6⟩ := ih (w.setCell ⟨b, off + i, none⟩ v) b off (i + 1) (cs.set (off + i) v) T hset' (by simp; omega) ho.2
    refine ⟨w', ?_, h2, h3, h4, ?_, fun k hk => ?_⟩
    · simp only [storeCells, Sem.run_bind, Addr.add_mk, run_store _ _ _ _ _ ho.1, hcell, hfz, Bool.false_eq_true, if_false, Result.andThen_ok]
      exact h1
    · rw [h5]
      have e : off + (i + 1) = off + i + 1 := by omega
      rw [e, spl_step]
    · rw [h6 k hk, heap_setCell_other _ _ _ _ hk]

theorem storeVar_run {v : Value} {vs cs : List Value} {T TT : TypeId} {agg : Bool} {b off : Nat} {w : World} (hT : Ty P T agg vs.length) (hv : v.cells = vs.toArray) (ho : ones vs = true)
    (hb : w.heap[b]? = some (.cells ⟨cs⟩ TT (0, 0))) (hl : off + vs.length ≤ cs.length) :
    ∃ w', (storeVar T ⟨b, off, none⟩ v).run P w = .ok () w' ∧ w'.os = w.os ∧ w'.tape = w.tape ∧ w'.output = w.output ∧
      w'.heap[b]? = some (.cells ⟨spl cs off vs⟩ TT (0, 0)) ∧ ∀ k, k ≠ b → w'.heap[k]? = w.heap[k]? := by
  obtain ⟨w', h1, h2, h3, h4, h5, h6⟩ := storeCells_run (P := P) vs w b off 0 cs TT hb (by omega) ho
  refine ⟨w', ?_, h2, h3, h4, by simpa using h5, h6⟩
  simp [storeVar, hv, hT.run_sizeOf, h1]
end

/-! ## The rules -/

section
variable {P : Program} {ops : Array Oper} {Q : Exit → Act → World → Prop} {N : Nat} {F : List (Nat × Value)} {E : Env} {R : Frag} {As As' : List Ent}
variable {d : Nat} {ty : TypeId} {pos : String} {af : Array Edge} {l : List Oper} {x y : Operand} {v u : Value} {T : TypeId}

theorem HL_move (hd : Nat.blt d N = true) (hx : ev F x = some v) (k : HL P ops Q N ((d, v) :: F) E R As l) :
    HL P ops Q N F E R As (⟨some d, .move x, ty, pos, af, none⟩ :: l) :=
  HL_same hd (fun a w ha _ => by simp [execOp, ha.eval hx]) k
theorem HL_assign (hd : Nat.blt d N = true) (hx : ev F x = some v) (k : HL P ops Q N ((d, v) :: F) E R As l) :
    HL P ops Q N F E R As (⟨some d, .assign x, ty, pos, af, none⟩ :: l) :=
  HL_same hd (fun a w ha _ => by simp [execOp, ha.eval hx]) k
theorem HL_pick {c : Operand} {b : Bool} (hd : Nat.blt d N = true) (hc : ev F c = some (.bool b)) (hx : ev F (bif b then x else y) = some v) (k : HL P ops Q N ((d, v) :: F) E R As l) :
    HL P ops Q N F E R As (⟨some d, .pick c x y, ty, pos, af, none⟩ :: l) :=
  HL_same hd (fun a w ha _ => by
    have := ha.eval hx
    simp only [execOp, ha.eval hc]
    cases b <;> simp_all [asBool]) k

theorem HL_alloc {zs : List Value} {z : Value} (hd : Nat.blt d N = true) (hT : TyZ P T z) (hz : z.cells = zs.toArray)
    (k : ∀ b, HL P ops Q N ((d, .pointer (some ⟨b, 0, none⟩)) :: F) E R (blk b zs T :: As) l) :
    HL P ops Q N F E R As (⟨some d, .alloc T, ty, pos, af, none⟩ :: l) := fun a w ha hs => by
  refine wp_value rfl (v := .pointer (some ⟨w.heap.size, 0, none⟩)) (w' := { w with heap := w.heap.push (.cells zs.toArray T (0, 0)) }) ?_ (k w.heap.size _ _ (ha.put hd) (hs.push _))
  simp [execOp, Instr.alloc, hT.run_zero, newVar, newRow, hz]

theorem HL_box {vs : List Value} (hd : Nat.blt d N = true) (hx : ev F x = some v) (hz : v.cells = vs.toArray)
    (k : ∀ b, HL P ops Q N ((d, .pointer (some ⟨b, 0, none⟩)) :: F) E R (blk b vs T :: As) l) :
    HL P ops Q N F E R As (⟨some d, .box T x, ty, pos, af, none⟩ :: l) := fun a w ha hs => by
  refine wp_value rfl (v := .pointer (some ⟨w.heap.size, 0, none⟩)) (w' := { w with heap := w.heap.push (.cells vs.toArray T (0, 0)) }) ?_ (k w.heap.size _ _ (ha.put hd) (hs.push _))
  simp [execOp, Instr.box, ha.eval hx, newVar, newRow, hz]

theorem HL_load_agg {b off n : Nat} {vs : List Value} (hd : Nat.blt d N = true) (hT : Ty P T true n) (hx : ev F x = some (.pointer (some ⟨b, off, none⟩))) (hr : Rd As R b off n vs)
    (k : HL P ops Q N ((d, .agg vs.toArray) :: F) E R As l) : HL P ops Q N F E R As (⟨some d, .load T x, ty, pos, af, none⟩ :: l) :=
  HL_same hd (fun a w ha hs => by simp [execOp, Instr.loadAt, Instr.sureAddr, ha.eval hx, run_loadVar_agg hT hr hs]) k
theorem HL_load_one {b off n : Nat} (hd : Nat.blt d N = true) (hT : Ty P T false n) (hx : ev F x = some (.pointer (some ⟨b, off, none⟩))) (hr : Rd As R b off 1 [v])
    (k : HL P ops Q N ((d, v) :: F) E R As l) : HL P ops Q N F E R As (⟨some d, .load T x, ty, pos, af, none⟩ :: l) :=
  HL_same hd (fun a w ha hs => by simp [execOp, Instr.loadAt, Instr.sureAddr, ha.eval hx, run_loadVar_one hT hr hs]) k

theorem HL_store {b off : Nat} {vs cs : List Value} {agg : Bool} {TT : TypeId} (hT : Ty P T agg vs.length) (hx : ev F x = some (.pointer (some ⟨b, off, none⟩))) (hy : ev F y = some v)
    (hv : v.cells = vs.toArray) (ho : ones vs = true) (hs : Sel As (blk b cs TT) (blk b (spl cs off vs) TT) As') (hl : Nat.ble (off + vs.length) cs.length = true)
    (k : HL P ops Q N F E R As' l) : HL P ops Q N F E R As (⟨none, .store T x y, ty, pos, af, none⟩ :: l) :=
  HL_none (fun a w ha hst => by
    obtain ⟨w', h1, h2, h3, h4, h5, h6⟩ := storeVar_run (P := P) (w := w) (off := off) hT hv ho (hst.own b _ hs.mem) (by simpa using hl)
    refine ⟨w', ?_, hst.turn hs h2 h3 h4 h5 h6⟩
    simp [execOp, Instr.storeAt, Instr.sureAddr, ha.eval hx, ha.eval hy, h1]) k

theorem HL_fieldAddr {b off f fo : Nat} (hd : Nat.blt d N = true) (hf : Fld P T f fo) (hx : ev F x = some (.pointer (some ⟨b, off, none⟩)))
    (k : HL P ops Q N ((d, .pointer (some ⟨b, off + fo, none⟩)) :: F) E R As l) : HL P ops Q N F E R As (⟨some d, .fieldAddr T x f, ty, pos, af, none⟩ :: l) :=
  HL_same hd (fun a w ha hs => by
    obtain ⟨fs, fd, i, h1, h2, rfl, h3, h4⟩ := hf
    simp [execOp, Instr.fieldAt, Instr.sureAddr, ha.eval hx, run_underlying' h1, h2, fieldPlace, sizeOf, typeInfo, h3, h4, Addr.add_mk]) k

theorem HL_indexAddr {b off n cap e j : Nat} {te : TypeId} {kd : IntKind} {agg : Bool} (hd : Nat.blt d N = true) (hT : P.underlying T = some (.slice te)) (he : Ty P te agg e)
    (hx : ev F x = some (.slice (some ⟨b, off, none⟩) n cap)) (hy : ev F y = some (.int kd (j : Int))) (hj : j < n)
    (k : HL P ops Q N ((d, .pointer (some ⟨b, off + j * e, none⟩)) :: F) E R As l) : HL P ops Q N F E R As (⟨some d, .indexAddr T x y, ty, pos, af, none⟩ :: l) :=
  HL_same hd (fun a w ha hs => by
    simp [execOp, Instr.indexAt, asIntOf, ha.eval hx, ha.eval hy, run_underlying' hT, hj, he.run_sizeOf, Addr.add_mk]) k

/-- Indexing an array behind an address. -/
theorem HL_indexAddr_arr {b off n e j : Nat} {te : TypeId} {kd : IntKind} {agg : Bool} (hd : Nat.blt d N = true) (hT : P.underlying T = some (.array n te)) (he : Ty P te agg e)
    (hx : ev F x = some (.pointer (some ⟨b, off, none⟩))) (hy : ev F y = some (.int kd (j : Int))) (hj : j < n)
    (k : HL P ops Q N ((d, .pointer (some ⟨b, off + j * e, none⟩)) :: F) E R As l) : HL P ops Q N F E R As (⟨some d, .indexAddr T x y, ty, pos, af, none⟩ :: l) :=
  HL_same hd (fun a w ha hs => by
    simp [execOp, Instr.indexAt, asIntOf, Instr.sureAddr, ha.eval hx, ha.eval hy, run_underlying' hT, hj, he.run_sizeOf, Addr.add_mk]) k

theorem HL_extract {vs : List Value} {i : Nat} (hd : Nat.blt d N = true) (hx : ev F x = some (.tuple vs.toArray)) (hv : vs[i]? = some v)
    (k : HL P ops Q N ((d, v) :: F) E R As l) : HL P ops Q N F E R As (⟨some d, .extract x i, ty, pos, af, none⟩ :: l) :=
  HL_same hd (fun a w ha hs => by simp [execOp, Instr.extract, ha.eval hx, hv]) k

theorem HL_nilCheck {a' : Addr} (hd : Nat.blt d N = true) (hx : ev F x = some (.pointer (some a')))
    (k : HL P ops Q N ((d, .pointer (some a')) :: F) E R As l) : HL P ops Q N F E R As (⟨some d, .nilCheck x, ty, pos, af, none⟩ :: l) :=
  HL_same hd (fun a w ha hs => by simp [execOp, ha.eval hx]) k

theorem HL_bin {op : BinOp} {yT : TypeId} {r : Value} {vx vy : Value} (hd : Nat.blt d N = true) (hx : ev F x = some vx) (hy : ev F y = some vy)
    (hr : ∀ w, (do eqGuard op T x y vx vy; binOp op T vx vy : Sem Value).run P w = .ok r w) (k : HL P ops Q N ((d, r) :: F) E R As l) :
    HL P ops Q N F E R As (⟨some d, .binOp op T x y yT, ty, pos, af, none⟩ :: l) :=
  HL_same hd (fun a w ha hs => by
    have h1 := hr w
    show Sem.run P (do let r ← (do eqGuard op T x y (a.eval x) (a.eval y); binOp op T (a.eval x) (a.eval y)); pure (Next.value r)) w = _
    rw [ha.eval hx, ha.eval hy, Sem.run_bind, h1]
    rfl) k

theorem HL_add {yT : TypeId} {a b : Int} (hd : Nat.blt d N = true) (hx : ev F x = some (.int .i64 a)) (hy : ev F y = some (.int .i64 b))
    (h1 : -9223372036854775808 ≤ a + b) (h2 : a + b ≤ 9223372036854775807) (k : HL P ops Q N ((d, .int .i64 (a + b)) :: F) E R As l) :
    HL P ops Q N F E R As (⟨some d, .binOp .add T x y yT, ty, pos, af, none⟩ :: l) :=
  HL_bin hd hx hy (fun w => by simp [eqGuard, binOp, Op.intArith, IntWalk.i64_in _ ⟨h1, h2⟩]) k
theorem HL_sub' {yT : TypeId} {a b : Int} (hd : Nat.blt d N = true) (hx : ev F x = some (.int .i64 a)) (hy : ev F y = some (.int .i64 b))
    (h1 : -9223372036854775808 ≤ a - b) (h2 : a - b ≤ 9223372036854775807) (k : HL P ops Q N ((d, .int .i64 (a - b)) :: F) E R As l) :
    HL P ops Q N F E R As (⟨some d, .binOp .sub T x y yT, ty, pos, af, none⟩ :: l) :=
  HL_bin hd hx hy (fun w => by simp [eqGuard, binOp, Op.intArith, IntWalk.i64_in _ ⟨h1, h2⟩]) k

theorem HL_lss {yT : TypeId} {kd : IntKind} {a b : Int} (hd : Nat.blt d N = true) (hx : ev F x = some (.int kd a)) (hy : ev F y = some (.int kd b))
    (k : HL P ops Q N ((d, .bool (decide (a < b))) :: F) E R As l) : HL P ops Q N F E R As (⟨some d, .binOp .lss T x y yT, ty, pos, af, none⟩ :: l) :=
  HL_bin hd hx hy (fun w => by simp [eqGuard, binOp, Op.intCmp]) k
theorem HL_leq {yT : TypeId} {kd : IntKind} {a b : Int} (hd : Nat.blt d N = true) (hx : ev F x = some (.int kd a)) (hy : ev F y = some (.int kd b))
    (k : HL P ops Q N ((d, .bool (decide (a ≤ b))) :: F) E R As l) : HL P ops Q N F E R As (⟨some d, .binOp .leq T x y yT, ty, pos, af, none⟩ :: l) :=
  HL_bin hd hx hy (fun w => by simp [eqGuard, binOp, Op.intCmp]) k
theorem HL_gtr {yT : TypeId} {kd : IntKind} {a b : Int} (hd : Nat.blt d N = true) (hx : ev F x = some (.int kd a)) (hy : ev F y = some (.int kd b))
    (k : HL P ops Q N ((d, .bool (decide (b < a))) :: F) E R As l) : HL P ops Q N F E R As (⟨some d, .binOp .gtr T x y yT, ty, pos, af, none⟩ :: l) :=
  HL_bin hd hx hy (fun w => by simp [eqGuard, binOp, Op.intCmp]) k
theorem HL_geq {yT : TypeId} {kd : IntKind} {a b : Int} (hd : Nat.blt d N = true) (hx : ev F x = some (.int kd a)) (hy : ev F y = some (.int kd b))
    (k : HL P ops Q N ((d, .bool (decide (b ≤ a))) :: F) E R As l) : HL P ops Q N F E R As (⟨some d, .binOp .geq T x y yT, ty, pos, af, none⟩ :: l) :=
  HL_bin hd hx hy (fun w => by simp [eqGuard, binOp, Op.intCmp]) k
theorem HL_eql_int {yT : TypeId} {kd : IntKind} {a b : Int} (hd : Nat.blt d N = true) (hx : ev F x = some (.int kd a)) (hy : ev F y = some (.int kd b))
    (k : HL P ops Q N ((d, .bool (a == b)) :: F) E R As l) : HL P ops Q N F E R As (⟨some d, .binOp .eql T x y yT, ty, pos, af, none⟩ :: l) :=
  HL_bin hd hx hy (fun w => by simp [eqGuard, binOp, Op.intCmp]) k
theorem HL_neq_int {yT : TypeId} {kd : IntKind} {a b : Int} (hd : Nat.blt d N = true) (hx : ev F x = some (.int kd a)) (hy : ev F y = some (.int kd b))
    (k : HL P ops Q N ((d, .bool (a != b)) :: F) E R As l) : HL P ops Q N F E R As (⟨some d, .binOp .neq T x y yT, ty, pos, af, none⟩ :: l) :=
  HL_bin hd hx hy (fun w => by simp [eqGuard, binOp, Op.intCmp]) k
theorem HL_eql_str {yT : TypeId} {a b : ByteArray} (hd : Nat.blt d N = true) (hx : ev F x = some (.string a)) (hy : ev F y = some (.string b))
    (k : HL P ops Q N ((d, .bool (a.toList == b.toList)) :: F) E R As l) : HL P ops Q N F E R As (⟨some d, .binOp .eql T x y yT, ty, pos, af, none⟩ :: l) :=
  HL_bin hd hx hy (fun w => by simp [eqGuard, binOp, Op.stringOp]) k
theorem HL_neq_str {yT : TypeId} {a b : ByteArray} (hd : Nat.blt d N = true) (hx : ev F x = some (.string a)) (hy : ev F y = some (.string b))
    (k : HL P ops Q N ((d, .bool (!(a.toList == b.toList))) :: F) E R As l) : HL P ops Q N F E R As (⟨some d, .binOp .neq T x y yT, ty, pos, af, none⟩ :: l) :=
  HL_bin hd hx hy (fun w => by simp [eqGuard, binOp, Op.stringOp]) k
theorem HL_lss_str {yT : TypeId} {a b : ByteArray} (hd : Nat.blt d N = true) (hx : ev F x = some (.string a)) (hy : ev F y = some (.string b))
    (k : HL P ops Q N ((d, .bool (Op.bytesLess a.toList b.toList)) :: F) E R As l) : HL P ops Q N F E R As (⟨some d, .binOp .lss T x y yT, ty, pos, af, none⟩ :: l) :=
  HL_bin hd hx hy (fun w => by simp [eqGuard, binOp, Op.stringOp]) k
theorem HL_not {b : Bool} (hd : Nat.blt d N = true) (hx : ev F x = some (.bool b))
    (k : HL P ops Q N ((d, .bool (!b)) :: F) E R As l) : HL P ops Q N F E R As (⟨some d, .unOp .not T x, ty, pos, af, none⟩ :: l) :=
  HL_same hd (fun a w ha hs => by simp [execOp, Op.unary, ha.eval hx]) k

/-! ### len, cap -/
theorem HL_len_slice {n cap : Nat} {ba : Option Addr} {te t : TypeId} (hd : Nat.blt d N = true) (hT : P.underlying t = some (.slice te)) (hx : ev F x = some (.slice ba n cap))
    (k : HL P ops Q N ((d, .int .i64 (n : Int)) :: F) E R As l) : HL P ops Q N F E R As (⟨some d, .call ⟨.builtin .len, #[x], #[t]⟩, ty, pos, af, none⟩ :: l) :=
  HL_same hd (fun a w ha hs => by simp [execOp, resolve, invoke, builtin, Builtin.len_, run_underlying' hT, ha.eval hx, goInt]) k
theorem HL_len_string {s : ByteArray} {t : TypeId} (hd : Nat.blt d N = true) (hT : P.underlying t = some .string) (hx : ev F x = some (.string s))
    (k : HL P ops Q N ((d, .int .i64 (s.size : Int)) :: F) E R As l) : HL P ops Q N F E R As (⟨some d, .call ⟨.builtin .len, #[x], #[t]⟩, ty, pos, af, none⟩ :: l) :=
  HL_same hd (fun a w ha hs => by simp [execOp, resolve, invoke, builtin, Builtin.len_, run_underlying' hT, ha.eval hx, goInt]) k
theorem HL_cap_slice {n cap : Nat} {ba : Option Addr} {te t : TypeId} (hd : Nat.blt d N = true) (hT : P.underlying t = some (.slice te)) (hx : ev F x = some (.slice ba n cap))
    (k : HL P ops Q N ((d, .int .i64 (cap : Int)) :: F) E R As l) : HL P ops Q N F E R As (⟨some d, .call ⟨.builtin .cap, #[x], #[t]⟩, ty, pos, af, none⟩ :: l) :=
  HL_same hd (fun a w ha hs => by simp [execOp, resolve, invoke, builtin, Builtin.cap_, run_underlying' hT, ha.eval hx, goInt]) k

theorem HL_makeInterface {D : TypeDesc} (hd : Nat.blt d N = true) (hT : P.underlying T = some D) (hD : ∀ ms, D ≠ .interface ms) (hx : ev F x = some v)
    (k : HL P ops Q N ((d, .iface T v) :: F) E R As l) : HL P ops Q N F E R As (⟨some d, .makeInterface T x, ty, pos, af, none⟩ :: l) :=
  HL_same hd (fun a w ha hs => by
    cases D <;> simp_all [execOp, Instr.makeInterface, run_underlying' hT, ha.eval hx]) k

theorem HL_makeFunc {fn : Fn} {xs ys : List Operand} {vs us : List Value} (hd : Nat.blt d N = true) (hx : evs F xs = some vs) (hy : evs F ys = some us)
    (k : HL P ops Q N ((d, .func fn vs.toArray us.toArray) :: F) E R As l) : HL P ops Q N F E R As (⟨some d, .makeFunc fn xs.toArray ys.toArray, ty, pos, af, none⟩ :: l) :=
  HL_same hd (fun a w ha hs => by simp [execOp, Instr.makeFunc, ha.evals hx, ha.evals hy]) k
end
end Go.Sx
namespace Go.Sx
open Go
theorem Ty.of {P : Program} {T : TypeId} {D : TypeDesc} {agg : Bool} {n : Nat} (h : P.underlying T = some D) (ha : aggD D = agg) (hi : (P.info? T).map (·.size) = some n) : Ty P T agg n := by
  refine ⟨⟨D, h, ha⟩, ?_⟩
  cases hq : P.info? T with
  | none => simp [hq] at hi
  | some i => exact ⟨i, rfl, by simpa [hq] using hi⟩
theorem TyZ.of {P : Program} {T : TypeId} {z : Value} (hi : (P.info? T).bind (·.zero) = some z) : TyZ P T z := by
  cases hq : P.info? T with
  | none => simp [hq] at hi
  | some i => exact ⟨i, hq, by simpa [hq] using hi⟩
theorem TyB.of {P : Program} {T : TypeId} {n : Nat} (hi : (P.info? T).map (·.bytes) = some n) : TyB P T n := by
  cases hq : P.info? T with
  | none => simp [hq] at hi
  | some i => exact ⟨i, hq, by simpa [hq] using hi⟩
def fldOf (P : Program) (T : TypeId) (f : Nat) : Option (Nat × Bool) :=
  match P.underlying T with
  | some (.struct fs) => match fs[f]? with
    | some fd => match P.info? fd.type with
      | some i => some (fd.offset, Nat.beq i.size 0)
      | none => none
    | none => none
  | _ => none
theorem Fld.of {P : Program} {T : TypeId} {f off : Nat} (h : fldOf P T f = some (off, false)) : Fld P T f off := by
  unfold fldOf at h
  split at h
  · rename_i fs hfs
    split at h
    · rename_i fd hfd
      split at h
      · rename_i i hi
        simp only [Option.some.injEq, Prod.mk.injEq] at h
        refine ⟨fs, fd, i, hfs, hfd, h.1, hi, fun e => by rw [e] at h; simp at h⟩
      · cases h
    · cases h
  · cases h
theorem IsFn.of {P : Program} {f : FuncId} {fn : Func} (h : P.funcs[f]? = some fn) (h1 : (fn.name == "runtime.NumGoroutine") = false) (h2 : fn.body.isNone = false) : IsFn P f := ⟨fn, h, h1, h2⟩
end Go.Sx

/-! Closed facts on the program: its types (cells, zero values, fields), and which functions have bodies. Printed by a program of ours (wip/tools/facts.py). -/
namespace Go.Sx
open Go Go.Proofs

theorem ty2 : Ty Tryz.prog 2 false 1 := Ty.of Tryz.underlying2 rfl (by kernel_rfl)
theorem z2 : TyZ Tryz.prog 2 (.int .i64 0) := TyZ.of (by kernel_rfl)
theorem by2 : TyB Tryz.prog 2 8 := TyB.of (by kernel_rfl)
theorem ty3 : Ty Tryz.prog 3 false 1 := Ty.of Tryz.underlying3 rfl (by kernel_rfl)
theorem z3 : TyZ Tryz.prog 3 (.int .i64 0) := TyZ.of (by kernel_rfl)
theorem by3 : TyB Tryz.prog 3 8 := TyB.of (by kernel_rfl)
theorem ty4 : Ty Tryz.prog 4 false 1 := Ty.of Tryz.underlying4 rfl (by kernel_rfl)
theorem z4 : TyZ Tryz.prog 4 (.bool false) := TyZ.of (by kernel_rfl)
theorem by4 : TyB Tryz.prog 4 1 := TyB.of (by kernel_rfl)
theorem ty5 : Ty Tryz.prog 5 false 1 := Ty.of Tryz.underlying5 rfl (by kernel_rfl)
theorem z5 : TyZ Tryz.prog 5 (.int .u8 0) := TyZ.of (by kernel_rfl)
theorem by5 : TyB Tryz.prog 5 1 := TyB.of (by kernel_rfl)
theorem ty8 : Ty Tryz.prog 8 true 4 := Ty.of Tryz.underlying8 rfl (by kernel_rfl)
theorem z8 : TyZ Tryz.prog 8 (.agg #[.int .i64 0, .int .i64 0, .bool false, .int .u8 0]) := TyZ.of (by kernel_rfl)
theorem by8 : TyB Tryz.prog 8 24 := TyB.of (by kernel_rfl)
theorem f8_0 : Fld Tryz.prog 8 0 0 := Fld.of (by kernel_rfl)
theorem f8_1 : Fld Tryz.prog 8 1 1 := Fld.of (by kernel_rfl)
theorem f8_2 : Fld Tryz.prog 8 2 2 := Fld.of (by kernel_rfl)
theorem f8_3 : Fld Tryz.prog 8 3 3 := Fld.of (by kernel_rfl)
theorem ty9 : Ty Tryz.prog 9 false 1 := Ty.of Tryz.underlying9 rfl (by kernel_rfl)
theorem z9 : TyZ Tryz.prog 9 (.string ⟨#[]⟩) := TyZ.of (by kernel_rfl)
theorem by9 : TyB Tryz.prog 9 16 := TyB.of (by kernel_rfl)
theorem ty10 : Ty Tryz.prog 10 false 1 := Ty.of Tryz.underlying10 rfl (by kernel_rfl)
theorem z10 : TyZ Tryz.prog 10 (.string ⟨#[]⟩) := TyZ.of (by kernel_rfl)
theorem by10 : TyB Tryz.prog 10 16 := TyB.of (by kernel_rfl)
theorem ty11 : Ty Tryz.prog 11 false 1 := Ty.of Tryz.underlying11 rfl (by kernel_rfl)
theorem z11 : TyZ Tryz.prog 11 (.string ⟨#[]⟩) := TyZ.of (by kernel_rfl)
theorem by11 : TyB Tryz.prog 11 16 := TyB.of (by kernel_rfl)
theorem ty12 : Ty Tryz.prog 12 false 1 := Ty.of Tryz.underlying12 rfl (by kernel_rfl)
theorem z12 : TyZ Tryz.prog 12 (.int .u64 0) := TyZ.of (by kernel_rfl)
theorem by12 : TyB Tryz.prog 12 8 := TyB.of (by kernel_rfl)
theorem ty14 : Ty Tryz.prog 14 true 2 := Ty.of Tryz.underlying14 rfl (by kernel_rfl)
theorem z14 : TyZ Tryz.prog 14 (.agg #[.string ⟨#[]⟩, .int .u64 0]) := TyZ.of (by kernel_rfl)
theorem by14 : TyB Tryz.prog 14 24 := TyB.of (by kernel_rfl)
theorem f14_0 : Fld Tryz.prog 14 0 0 := Fld.of (by kernel_rfl)
theorem f14_1 : Fld Tryz.prog 14 1 1 := Fld.of (by kernel_rfl)
theorem ty15 : Ty Tryz.prog 15 false 1 := Ty.of Tryz.underlying15 rfl (by kernel_rfl)
theorem z15 : TyZ Tryz.prog 15 (.pointer none) := TyZ.of (by kernel_rfl)
theorem by15 : TyB Tryz.prog 15 8 := TyB.of (by kernel_rfl)
theorem ty16 : Ty Tryz.prog 16 false 1 := Ty.of Tryz.underlying16 rfl (by kernel_rfl)
theorem z16 : TyZ Tryz.prog 16 (.pointer none) := TyZ.of (by kernel_rfl)
theorem by16 : TyB Tryz.prog 16 8 := TyB.of (by kernel_rfl)
theorem ty17 : Ty Tryz.prog 17 false 1 := Ty.of Tryz.underlying17 rfl (by kernel_rfl)
theorem z17 : TyZ Tryz.prog 17 (.pointer none) := TyZ.of (by kernel_rfl)
theorem by17 : TyB Tryz.prog 17 8 := TyB.of (by kernel_rfl)
theorem ty19 : Ty Tryz.prog 19 true 1 := Ty.of Tryz.underlying19 rfl (by kernel_rfl)
theorem z19 : TyZ Tryz.prog 19 (.agg #[.pointer none]) := TyZ.of (by kernel_rfl)
theorem by19 : TyB Tryz.prog 19 8 := TyB.of (by kernel_rfl)
theorem f19_0 : Fld Tryz.prog 19 0 0 := Fld.of (by kernel_rfl)
theorem ty20 : Ty Tryz.prog 20 false 1 := Ty.of Tryz.underlying20 rfl (by kernel_rfl)
theorem z20 : TyZ Tryz.prog 20 (.nilIface) := TyZ.of (by kernel_rfl)
theorem by20 : TyB Tryz.prog 20 16 := TyB.of (by kernel_rfl)
theorem ty21 : Ty Tryz.prog 21 false 1 := Ty.of Tryz.underlying21 rfl (by kernel_rfl)
theorem z21 : TyZ Tryz.prog 21 (.int .i32 0) := TyZ.of (by kernel_rfl)
theorem by21 : TyB Tryz.prog 21 4 := TyB.of (by kernel_rfl)
theorem ty22 : Ty Tryz.prog 22 false 1 := Ty.of Tryz.underlying22 rfl (by kernel_rfl)
theorem z22 : TyZ Tryz.prog 22 (.slice none 0 0) := TyZ.of (by kernel_rfl)
theorem by22 : TyB Tryz.prog 22 24 := TyB.of (by kernel_rfl)
theorem ty27 : Ty Tryz.prog 27 false 1 := Ty.of Tryz.underlying27 rfl (by kernel_rfl)
theorem z27 : TyZ Tryz.prog 27 (.slice none 0 0) := TyZ.of (by kernel_rfl)
theorem by27 : TyB Tryz.prog 27 24 := TyB.of (by kernel_rfl)
theorem ty31 : Ty Tryz.prog 31 false 1 := Ty.of Tryz.underlying31 rfl (by kernel_rfl)
theorem z31 : TyZ Tryz.prog 31 (.slice none 0 0) := TyZ.of (by kernel_rfl)
theorem by31 : TyB Tryz.prog 31 24 := TyB.of (by kernel_rfl)
theorem ty48 : Ty Tryz.prog 48 false 1 := Ty.of Tryz.underlying48 rfl (by kernel_rfl)
theorem z48 : TyZ Tryz.prog 48 (.int .u64 0) := TyZ.of (by kernel_rfl)
theorem by48 : TyB Tryz.prog 48 8 := TyB.of (by kernel_rfl)
theorem ty49 : Ty Tryz.prog 49 false 1 := Ty.of Tryz.underlying49 rfl (by kernel_rfl)
theorem z49 : TyZ Tryz.prog 49 (.slice none 0 0) := TyZ.of (by kernel_rfl)
theorem by49 : TyB Tryz.prog 49 24 := TyB.of (by kernel_rfl)
theorem ty50 : Ty Tryz.prog 50 false 1 := Ty.of Tryz.underlying50 rfl (by kernel_rfl)
theorem z50 : TyZ Tryz.prog 50 (.slice none 0 0) := TyZ.of (by kernel_rfl)
theorem by50 : TyB Tryz.prog 50 24 := TyB.of (by kernel_rfl)
theorem ty52 : Ty Tryz.prog 52 true 7 := Ty.of Tryz.underlying52 rfl (by kernel_rfl)
theorem z52 : TyZ Tryz.prog 52 (.agg #[.int .u8 0, .int .u64 0, .string ⟨#[]⟩, .slice none 0 0, .slice none 0 0, .slice none 0 0, .slice none 0 0]) := TyZ.of (by kernel_rfl)
theorem by52 : TyB Tryz.prog 52 128 := TyB.of (by kernel_rfl)
theorem f52_0 : Fld Tryz.prog 52 0 0 := Fld.of (by kernel_rfl)
theorem f52_1 : Fld Tryz.prog 52 1 1 := Fld.of (by kernel_rfl)
theorem f52_2 : Fld Tryz.prog 52 2 2 := Fld.of (by kernel_rfl)
theorem f52_3 : Fld Tryz.prog 52 3 3 := Fld.of (by kernel_rfl)
theorem f52_4 : Fld Tryz.prog 52 4 4 := Fld.of (by kernel_rfl)
theorem f52_5 : Fld Tryz.prog 52 5 5 := Fld.of (by kernel_rfl)
theorem f52_6 : Fld Tryz.prog 52 6 6 := Fld.of (by kernel_rfl)
theorem ty54 : Ty Tryz.prog 54 true 8 := Ty.of Tryz.underlying54 rfl (by kernel_rfl)
theorem z54 : TyZ Tryz.prog 54 (.agg #[.string ⟨#[]⟩, .int .u8 0, .int .u64 0, .string ⟨#[]⟩, .slice none 0 0, .slice none 0 0, .slice none 0 0, .slice none 0 0]) := TyZ.of (by kernel_rfl)
theorem by54 : TyB Tryz.prog 54 144 := TyB.of (by kernel_rfl)
theorem f54_0 : Fld Tryz.prog 54 0 0 := Fld.of (by kernel_rfl)
theorem f54_1 : Fld Tryz.prog 54 1 1 := Fld.of (by kernel_rfl)
theorem ty55 : Ty Tryz.prog 55 false 1 := Ty.of Tryz.underlying55 rfl (by kernel_rfl)
theorem z55 : TyZ Tryz.prog 55 (.slice none 0 0) := TyZ.of (by kernel_rfl)
theorem by55 : TyB Tryz.prog 55 24 := TyB.of (by kernel_rfl)
theorem ty63 : Ty Tryz.prog 63 false 1 := Ty.of Tryz.underlying63 rfl (by kernel_rfl)
theorem z63 : TyZ Tryz.prog 63 (.slice none 0 0) := TyZ.of (by kernel_rfl)
theorem by63 : TyB Tryz.prog 63 24 := TyB.of (by kernel_rfl)
theorem ty65 : Ty Tryz.prog 65 true 7 := Ty.of Tryz.underlying65 rfl (by kernel_rfl)
theorem z65 : TyZ Tryz.prog 65 (.agg #[.int .u8 0, .int .u64 0, .string ⟨#[]⟩, .slice none 0 0, .slice none 0 0, .slice none 0 0, .slice none 0 0]) := TyZ.of (by kernel_rfl)
theorem by65 : TyB Tryz.prog 65 128 := TyB.of (by kernel_rfl)
theorem f65_0 : Fld Tryz.prog 65 0 0 := Fld.of (by kernel_rfl)
theorem f65_1 : Fld Tryz.prog 65 1 1 := Fld.of (by kernel_rfl)
theorem f65_2 : Fld Tryz.prog 65 2 2 := Fld.of (by kernel_rfl)
theorem f65_3 : Fld Tryz.prog 65 3 3 := Fld.of (by kernel_rfl)
theorem f65_4 : Fld Tryz.prog 65 4 4 := Fld.of (by kernel_rfl)
theorem f65_5 : Fld Tryz.prog 65 5 5 := Fld.of (by kernel_rfl)
theorem f65_6 : Fld Tryz.prog 65 6 6 := Fld.of (by kernel_rfl)
theorem ty67 : Ty Tryz.prog 67 true 8 := Ty.of Tryz.underlying67 rfl (by kernel_rfl)
theorem z67 : TyZ Tryz.prog 67 (.agg #[.string ⟨#[]⟩, .int .u8 0, .int .u64 0, .string ⟨#[]⟩, .slice none 0 0, .slice none 0 0, .slice none 0 0, .slice none 0 0]) := TyZ.of (by kernel_rfl)
theorem by67 : TyB Tryz.prog 67 144 := TyB.of (by kernel_rfl)
theorem f67_0 : Fld Tryz.prog 67 0 0 := Fld.of (by kernel_rfl)
theorem f67_1 : Fld Tryz.prog 67 1 1 := Fld.of (by kernel_rfl)
theorem ty73 : Ty Tryz.prog 73 false 1 := Ty.of Tryz.underlying73 rfl (by kernel_rfl)
theorem z73 : TyZ Tryz.prog 73 (.nilFunc) := TyZ.of (by kernel_rfl)
theorem by73 : TyB Tryz.prog 73 8 := TyB.of (by kernel_rfl)
theorem ty81 : Ty Tryz.prog 81 false 1 := Ty.of Tryz.underlying81 rfl (by kernel_rfl)
theorem z81 : TyZ Tryz.prog 81 (.pointer none) := TyZ.of (by kernel_rfl)
theorem by81 : TyB Tryz.prog 81 8 := TyB.of (by kernel_rfl)
theorem ty83 : Ty Tryz.prog 83 false 1 := Ty.of Tryz.underlying83 rfl (by kernel_rfl)
theorem z83 : TyZ Tryz.prog 83 (.nilFunc) := TyZ.of (by kernel_rfl)
theorem by83 : TyB Tryz.prog 83 8 := TyB.of (by kernel_rfl)
theorem ty84 : Ty Tryz.prog 84 false 1 := Ty.of Tryz.underlying84 rfl (by kernel_rfl)
theorem z84 : TyZ Tryz.prog 84 (.slice none 0 0) := TyZ.of (by kernel_rfl)
theorem by84 : TyB Tryz.prog 84 24 := TyB.of (by kernel_rfl)
theorem ty86 : Ty Tryz.prog 86 true 2 := Ty.of Tryz.underlying86 rfl (by kernel_rfl)
theorem z86 : TyZ Tryz.prog 86 (.agg #[.int .u64 0, .slice none 0 0]) := TyZ.of (by kernel_rfl)
theorem by86 : TyB Tryz.prog 86 32 := TyB.of (by kernel_rfl)
theorem f86_0 : Fld Tryz.prog 86 0 0 := Fld.of (by kernel_rfl)
theorem f86_1 : Fld Tryz.prog 86 1 1 := Fld.of (by kernel_rfl)
theorem ty89 : Ty Tryz.prog 89 false 1 := Ty.of Tryz.underlying89 rfl (by kernel_rfl)
theorem z89 : TyZ Tryz.prog 89 (.pointer none) := TyZ.of (by kernel_rfl)
theorem by89 : TyB Tryz.prog 89 8 := TyB.of (by kernel_rfl)
theorem ty91 : Ty Tryz.prog 91 true 2 := Ty.of Tryz.underlying91 rfl (by kernel_rfl)
theorem z91 : TyZ Tryz.prog 91 (.agg #[.pointer none, .int .i64 0]) := TyZ.of (by kernel_rfl)
theorem by91 : TyB Tryz.prog 91 16 := TyB.of (by kernel_rfl)
theorem f91_0 : Fld Tryz.prog 91 0 0 := Fld.of (by kernel_rfl)
theorem f91_1 : Fld Tryz.prog 91 1 1 := Fld.of (by kernel_rfl)
theorem ty92 : Ty Tryz.prog 92 false 1 := Ty.of Tryz.underlying92 rfl (by kernel_rfl)
theorem z92 : TyZ Tryz.prog 92 (.string ⟨#[]⟩) := TyZ.of (by kernel_rfl)
theorem by92 : TyB Tryz.prog 92 16 := TyB.of (by kernel_rfl)
theorem ty93 : Ty Tryz.prog 93 false 1 := Ty.of Tryz.underlying93 rfl (by kernel_rfl)
theorem z93 : TyZ Tryz.prog 93 (.int .i64 0) := TyZ.of (by kernel_rfl)
theorem by93 : TyB Tryz.prog 93 8 := TyB.of (by kernel_rfl)
theorem ty95 : Ty Tryz.prog 95 true 4 := Ty.of Tryz.underlying95 rfl (by kernel_rfl)
theorem z95 : TyZ Tryz.prog 95 (.agg #[.int .i64 0, .int .u64 0, .string ⟨#[]⟩, .nilIface]) := TyZ.of (by kernel_rfl)
theorem by95 : TyB Tryz.prog 95 48 := TyB.of (by kernel_rfl)
theorem f95_0 : Fld Tryz.prog 95 0 0 := Fld.of (by kernel_rfl)
theorem f95_1 : Fld Tryz.prog 95 1 1 := Fld.of (by kernel_rfl)
theorem f95_2 : Fld Tryz.prog 95 2 2 := Fld.of (by kernel_rfl)
theorem f95_3 : Fld Tryz.prog 95 3 3 := Fld.of (by kernel_rfl)
theorem ty97 : Ty Tryz.prog 97 true 5 := Ty.of Tryz.underlying97 rfl (by kernel_rfl)
theorem z97 : TyZ Tryz.prog 97 (.agg #[.string ⟨#[]⟩, .int .i64 0, .int .u64 0, .string ⟨#[]⟩, .nilIface]) := TyZ.of (by kernel_rfl)
theorem by97 : TyB Tryz.prog 97 64 := TyB.of (by kernel_rfl)
theorem f97_0 : Fld Tryz.prog 97 0 0 := Fld.of (by kernel_rfl)
theorem f97_1 : Fld Tryz.prog 97 1 1 := Fld.of (by kernel_rfl)
theorem ty99 : Ty Tryz.prog 99 true 8 := Ty.of Tryz.underlying99 rfl (by kernel_rfl)
theorem z99 : TyZ Tryz.prog 99 (.agg #[.pointer none, .int .i64 0, .bool false, .string ⟨#[]⟩, .int .i64 0, .int .u64 0, .string ⟨#[]⟩, .nilIface]) := TyZ.of (by kernel_rfl)
theorem by99 : TyB Tryz.prog 99 88 := TyB.of (by kernel_rfl)
theorem f99_0 : Fld Tryz.prog 99 0 0 := Fld.of (by kernel_rfl)
theorem f99_1 : Fld Tryz.prog 99 1 2 := Fld.of (by kernel_rfl)
theorem f99_2 : Fld Tryz.prog 99 2 3 := Fld.of (by kernel_rfl)
theorem ty101 : Ty Tryz.prog 101 true 21 := Ty.of Tryz.underlying101 rfl (by kernel_rfl)
theorem z101 : TyZ Tryz.prog 101 (.agg #[.pointer none, .int .i64 0, .bool false, .string ⟨#[]⟩, .int .i64 0, .int .u64 0, .string ⟨#[]⟩, .nilIface, .pointer none, .int .i64 0, .bool false, .string ⟨#[]⟩, .int .i64 0, .int .u64 0, .string ⟨#[]⟩, .nilIface, .string ⟨#[]⟩, .int .i64 0, .int .u64 0, .string ⟨#[]⟩, .nilIface]) := TyZ.of (by kernel_rfl)
theorem by101 : TyB Tryz.prog 101 240 := TyB.of (by kernel_rfl)
theorem f101_0 : Fld Tryz.prog 101 0 0 := Fld.of (by kernel_rfl)
theorem f101_1 : Fld Tryz.prog 101 1 8 := Fld.of (by kernel_rfl)
theorem f101_2 : Fld Tryz.prog 101 2 16 := Fld.of (by kernel_rfl)
theorem ty111 : Ty Tryz.prog 111 false 1 := Ty.of Tryz.underlying111 rfl (by kernel_rfl)
theorem z111 : TyZ Tryz.prog 111 (.slice none 0 0) := TyZ.of (by kernel_rfl)
theorem by111 : TyB Tryz.prog 111 24 := TyB.of (by kernel_rfl)
theorem ty112 : Ty Tryz.prog 112 false 1 := Ty.of Tryz.underlying112 rfl (by kernel_rfl)
theorem z112 : TyZ Tryz.prog 112 (.nilFunc) := TyZ.of (by kernel_rfl)
theorem by112 : TyB Tryz.prog 112 8 := TyB.of (by kernel_rfl)
theorem ty113 : Ty Tryz.prog 113 false 1 := Ty.of Tryz.underlying113 rfl (by kernel_rfl)
theorem z113 : TyZ Tryz.prog 113 (.nilFunc) := TyZ.of (by kernel_rfl)
theorem by113 : TyB Tryz.prog 113 8 := TyB.of (by kernel_rfl)
theorem ty118 : Ty Tryz.prog 118 false 1 := Ty.of Tryz.underlying118 rfl (by kernel_rfl)
theorem z118 : TyZ Tryz.prog 118 (.pointer none) := TyZ.of (by kernel_rfl)
theorem by118 : TyB Tryz.prog 118 8 := TyB.of (by kernel_rfl)
theorem ty123 : Ty Tryz.prog 123 true 1 := Ty.of Tryz.underlying123 rfl (by kernel_rfl)
theorem z123 : TyZ Tryz.prog 123 (.agg #[.int .u64 0]) := TyZ.of (by kernel_rfl)
theorem by123 : TyB Tryz.prog 123 8 := TyB.of (by kernel_rfl)
theorem f123_0 : Fld Tryz.prog 123 0 0 := Fld.of (by kernel_rfl)
theorem ty128 : Ty Tryz.prog 128 false 1 := Ty.of Tryz.underlying128 rfl (by kernel_rfl)
theorem z128 : TyZ Tryz.prog 128 (.nilFunc) := TyZ.of (by kernel_rfl)
theorem by128 : TyB Tryz.prog 128 8 := TyB.of (by kernel_rfl)
theorem ty131 : Ty Tryz.prog 131 false 1 := Ty.of Tryz.underlying131 rfl (by kernel_rfl)
theorem z131 : TyZ Tryz.prog 131 (.nilIface) := TyZ.of (by kernel_rfl)
theorem by131 : TyB Tryz.prog 131 16 := TyB.of (by kernel_rfl)
theorem ty139 : Ty Tryz.prog 139 true 2 := Ty.of Tryz.underlying139 rfl (by kernel_rfl)
theorem z139 : TyZ Tryz.prog 139 (.agg #[.string ⟨#[]⟩, .string ⟨#[]⟩]) := TyZ.of (by kernel_rfl)
theorem by139 : TyB Tryz.prog 139 32 := TyB.of (by kernel_rfl)
theorem ty140 : Ty Tryz.prog 140 false 1 := Ty.of Tryz.underlying140 rfl (by kernel_rfl)
theorem z140 : TyZ Tryz.prog 140 (.nilFunc) := TyZ.of (by kernel_rfl)
theorem by140 : TyB Tryz.prog 140 8 := TyB.of (by kernel_rfl)
theorem ty141 : Ty Tryz.prog 141 false 1 := Ty.of Tryz.underlying141 rfl (by kernel_rfl)
theorem z141 : TyZ Tryz.prog 141 (.nilFunc) := TyZ.of (by kernel_rfl)
theorem by141 : TyB Tryz.prog 141 8 := TyB.of (by kernel_rfl)
theorem ty142 : Ty Tryz.prog 142 false 1 := Ty.of Tryz.underlying142 rfl (by kernel_rfl)
theorem z142 : TyZ Tryz.prog 142 (.nilFunc) := TyZ.of (by kernel_rfl)
theorem by142 : TyB Tryz.prog 142 8 := TyB.of (by kernel_rfl)
theorem ty143 : Ty Tryz.prog 143 false 1 := Ty.of Tryz.underlying143 rfl (by kernel_rfl)
theorem z143 : TyZ Tryz.prog 143 (.float .f64 0) := TyZ.of (by kernel_rfl)
theorem by143 : TyB Tryz.prog 143 8 := TyB.of (by kernel_rfl)
theorem ty155 : Ty Tryz.prog 155 false 1 := Ty.of Tryz.underlying155 rfl (by kernel_rfl)
theorem z155 : TyZ Tryz.prog 155 (.pointer none) := TyZ.of (by kernel_rfl)
theorem by155 : TyB Tryz.prog 155 8 := TyB.of (by kernel_rfl)
theorem ty156 : Ty Tryz.prog 156 false 1 := Ty.of Tryz.underlying156 rfl (by kernel_rfl)
theorem z156 : TyZ Tryz.prog 156 (.pointer none) := TyZ.of (by kernel_rfl)
theorem by156 : TyB Tryz.prog 156 8 := TyB.of (by kernel_rfl)
theorem ty157 : Ty Tryz.prog 157 false 1 := Ty.of Tryz.underlying157 rfl (by kernel_rfl)
theorem z157 : TyZ Tryz.prog 157 (.map none) := TyZ.of (by kernel_rfl)
theorem by157 : TyB Tryz.prog 157 8 := TyB.of (by kernel_rfl)
theorem ty158 : Ty Tryz.prog 158 true 0 := Ty.of Tryz.underlying158 rfl (by kernel_rfl)
theorem z158 : TyZ Tryz.prog 158 (.agg #[]) := TyZ.of (by kernel_rfl)
theorem by158 : TyB Tryz.prog 158 0 := TyB.of (by kernel_rfl)
theorem ty163 : Ty Tryz.prog 163 false 1 := Ty.of Tryz.underlying163 rfl (by kernel_rfl)
theorem z163 : TyZ Tryz.prog 163 (.nilFunc) := TyZ.of (by kernel_rfl)
theorem by163 : TyB Tryz.prog 163 8 := TyB.of (by kernel_rfl)
theorem ty166 : Ty Tryz.prog 166 false 1 := Ty.of Tryz.underlying166 rfl (by kernel_rfl)
theorem z166 : TyZ Tryz.prog 166 (.pointer none) := TyZ.of (by kernel_rfl)
theorem by166 : TyB Tryz.prog 166 8 := TyB.of (by kernel_rfl)
theorem ty168 : Ty Tryz.prog 168 true 1 := Ty.of Tryz.underlying168 rfl (by kernel_rfl)
theorem z168 : TyZ Tryz.prog 168 (.agg #[.pointer none]) := TyZ.of (by kernel_rfl)
theorem by168 : TyB Tryz.prog 168 8 := TyB.of (by kernel_rfl)
theorem f168_0 : Fld Tryz.prog 168 0 0 := Fld.of (by kernel_rfl)
theorem ty171 : Ty Tryz.prog 171 true 1 := Ty.of Tryz.underlying171 rfl (by kernel_rfl)
theorem z171 : TyZ Tryz.prog 171 (.agg #[.pointer none]) := TyZ.of (by kernel_rfl)
theorem by171 : TyB Tryz.prog 171 8 := TyB.of (by kernel_rfl)
theorem f171_0 : Fld Tryz.prog 171 0 0 := Fld.of (by kernel_rfl)
theorem ty178 : Ty Tryz.prog 178 false 1 := Ty.of Tryz.underlying178 rfl (by kernel_rfl)
theorem z178 : TyZ Tryz.prog 178 (.nilFunc) := TyZ.of (by kernel_rfl)
theorem by178 : TyB Tryz.prog 178 8 := TyB.of (by kernel_rfl)
theorem ty179 : Ty Tryz.prog 179 false 1 := Ty.of Tryz.underlying179 rfl (by kernel_rfl)
theorem z179 : TyZ Tryz.prog 179 (.pointer none) := TyZ.of (by kernel_rfl)
theorem by179 : TyB Tryz.prog 179 8 := TyB.of (by kernel_rfl)
theorem ty180 : Ty Tryz.prog 180 true 0 := Ty.of Tryz.underlying180 rfl (by kernel_rfl)
theorem z180 : TyZ Tryz.prog 180 (.agg #[]) := TyZ.of (by kernel_rfl)
theorem by180 : TyB Tryz.prog 180 0 := TyB.of (by kernel_rfl)
theorem ty186 : Ty Tryz.prog 186 false 1 := Ty.of Tryz.underlying186 rfl (by kernel_rfl)
theorem z186 : TyZ Tryz.prog 186 (.slice none 0 0) := TyZ.of (by kernel_rfl)
theorem by186 : TyB Tryz.prog 186 24 := TyB.of (by kernel_rfl)
theorem ty188 : Ty Tryz.prog 188 false 1 := Ty.of Tryz.underlying188 rfl (by kernel_rfl)
theorem z188 : TyZ Tryz.prog 188 (.slice none 0 0) := TyZ.of (by kernel_rfl)
theorem by188 : TyB Tryz.prog 188 24 := TyB.of (by kernel_rfl)
theorem ty190 : Ty Tryz.prog 190 false 1 := Ty.of Tryz.underlying190 rfl (by kernel_rfl)
theorem z190 : TyZ Tryz.prog 190 (.slice none 0 0) := TyZ.of (by kernel_rfl)
theorem by190 : TyB Tryz.prog 190 24 := TyB.of (by kernel_rfl)
theorem ty194 : Ty Tryz.prog 194 false 1 := Ty.of Tryz.underlying194 rfl (by kernel_rfl)
theorem z194 : TyZ Tryz.prog 194 (.slice none 0 0) := TyZ.of (by kernel_rfl)
theorem by194 : TyB Tryz.prog 194 24 := TyB.of (by kernel_rfl)
theorem ty211 : Ty Tryz.prog 211 false 1 := Ty.of Tryz.underlying211 rfl (by kernel_rfl)
theorem z211 : TyZ Tryz.prog 211 (.int .u32 0) := TyZ.of (by kernel_rfl)
theorem by211 : TyB Tryz.prog 211 4 := TyB.of (by kernel_rfl)
theorem ty212 : Ty Tryz.prog 212 false 1 := Ty.of Tryz.underlying212 rfl (by kernel_rfl)
theorem z212 : TyZ Tryz.prog 212 (.int .u64 0) := TyZ.of (by kernel_rfl)
theorem by212 : TyB Tryz.prog 212 8 := TyB.of (by kernel_rfl)
theorem ty213 : Ty Tryz.prog 213 false 1 := Ty.of Tryz.underlying213 rfl (by kernel_rfl)
theorem z213 : TyZ Tryz.prog 213 (.nilFunc) := TyZ.of (by kernel_rfl)
theorem by213 : TyB Tryz.prog 213 8 := TyB.of (by kernel_rfl)
theorem ty214 : Ty Tryz.prog 214 false 1 := Ty.of Tryz.underlying214 rfl (by kernel_rfl)
theorem z214 : TyZ Tryz.prog 214 (.nilFunc) := TyZ.of (by kernel_rfl)
theorem by214 : TyB Tryz.prog 214 8 := TyB.of (by kernel_rfl)
theorem ty223 : Ty Tryz.prog 223 false 1 := Ty.of Tryz.underlying223 rfl (by kernel_rfl)
theorem z223 : TyZ Tryz.prog 223 (.nilFunc) := TyZ.of (by kernel_rfl)
theorem by223 : TyB Tryz.prog 223 8 := TyB.of (by kernel_rfl)
theorem ty224 : Ty Tryz.prog 224 false 1 := Ty.of Tryz.underlying224 rfl (by kernel_rfl)
theorem z224 : TyZ Tryz.prog 224 (.pointer none) := TyZ.of (by kernel_rfl)
theorem by224 : TyB Tryz.prog 224 8 := TyB.of (by kernel_rfl)
theorem ty231 : Ty Tryz.prog 231 false 1 := Ty.of Tryz.underlying231 rfl (by kernel_rfl)
theorem z231 : TyZ Tryz.prog 231 (.nilFunc) := TyZ.of (by kernel_rfl)
theorem by231 : TyB Tryz.prog 231 8 := TyB.of (by kernel_rfl)
theorem ty232 : Ty Tryz.prog 232 false 1 := Ty.of Tryz.underlying232 rfl (by kernel_rfl)
theorem z232 : TyZ Tryz.prog 232 (.nilFunc) := TyZ.of (by kernel_rfl)
theorem by232 : TyB Tryz.prog 232 8 := TyB.of (by kernel_rfl)
theorem ty243 : Ty Tryz.prog 243 false 1 := Ty.of Tryz.underlying243 rfl (by kernel_rfl)
theorem z243 : TyZ Tryz.prog 243 (.pointer none) := TyZ.of (by kernel_rfl)
theorem by243 : TyB Tryz.prog 243 8 := TyB.of (by kernel_rfl)
theorem ty245 : Ty Tryz.prog 245 true 2 := Ty.of Tryz.underlying245 rfl (by kernel_rfl)
theorem z245 : TyZ Tryz.prog 245 (.agg #[.pointer none, .slice none 0 0]) := TyZ.of (by kernel_rfl)
theorem by245 : TyB Tryz.prog 245 32 := TyB.of (by kernel_rfl)
theorem f245_0 : Fld Tryz.prog 245 0 0 := Fld.of (by kernel_rfl)
theorem f245_1 : Fld Tryz.prog 245 1 1 := Fld.of (by kernel_rfl)
theorem ty263 : Ty Tryz.prog 263 false 1 := Ty.of Tryz.underlying263 rfl (by kernel_rfl)
theorem z263 : TyZ Tryz.prog 263 (.nilIface) := TyZ.of (by kernel_rfl)
theorem by263 : TyB Tryz.prog 263 16 := TyB.of (by kernel_rfl)
theorem ty268 : Ty Tryz.prog 268 true 24 := Ty.of Tryz.underlying268 rfl (by kernel_rfl)
theorem z268 : TyZ Tryz.prog 268 (.agg #[.int .u8 0, .int .u8 0, .int .u8 0, .int .u8 0, .int .u8 0, .int .u8 0, .int .u8 0, .int .u8 0, .int .u8 0, .int .u8 0, .int .u8 0, .int .u8 0, .int .u8 0, .int .u8 0, .int .u8 0, .int .u8 0, .int .u8 0, .int .u8 0, .int .u8 0, .int .u8 0, .int .u8 0, .int .u8 0, .int .u8 0, .int .u8 0]) := TyZ.of (by kernel_rfl)
theorem by268 : TyB Tryz.prog 268 24 := TyB.of (by kernel_rfl)
theorem ty276 : Ty Tryz.prog 276 true 1 := Ty.of Tryz.underlying276 rfl (by kernel_rfl)
theorem z276 : TyZ Tryz.prog 276 (.agg #[.slice none 0 0]) := TyZ.of (by kernel_rfl)
theorem by276 : TyB Tryz.prog 276 24 := TyB.of (by kernel_rfl)
theorem f276_0 : Fld Tryz.prog 276 0 0 := Fld.of (by kernel_rfl)
theorem ty286 : Ty Tryz.prog 286 true 0 := Ty.of Tryz.underlying286 rfl (by kernel_rfl)
theorem z286 : TyZ Tryz.prog 286 (.agg #[]) := TyZ.of (by kernel_rfl)
theorem by286 : TyB Tryz.prog 286 0 := TyB.of (by kernel_rfl)
theorem ty293 : Ty Tryz.prog 293 false 1 := Ty.of Tryz.underlying293 rfl (by kernel_rfl)
theorem z293 : TyZ Tryz.prog 293 (.pointer none) := TyZ.of (by kernel_rfl)
theorem by293 : TyB Tryz.prog 293 8 := TyB.of (by kernel_rfl)
theorem ty298 : Ty Tryz.prog 298 true 20 := Ty.of Tryz.underlying298 rfl (by kernel_rfl)
theorem z298 : TyZ Tryz.prog 298 (.agg #[.int .u8 0, .int .u8 0, .int .u8 0, .int .u8 0, .int .u8 0, .int .u8 0, .int .u8 0, .int .u8 0, .int .u8 0, .int .u8 0, .int .u8 0, .int .u8 0, .int .u8 0, .int .u8 0, .int .u8 0, .int .u8 0, .int .u8 0, .int .u8 0, .int .u8 0, .int .u8 0]) := TyZ.of (by kernel_rfl)
theorem by298 : TyB Tryz.prog 298 20 := TyB.of (by kernel_rfl)
theorem ty302 : Ty Tryz.prog 302 false 1 := Ty.of Tryz.underlying302 rfl (by kernel_rfl)
theorem z302 : TyZ Tryz.prog 302 (.float .f32 0) := TyZ.of (by kernel_rfl)
theorem by302 : TyB Tryz.prog 302 4 := TyB.of (by kernel_rfl)
theorem ty306 : Ty Tryz.prog 306 true 20 := Ty.of Tryz.underlying306 rfl (by kernel_rfl)
theorem z306 : TyZ Tryz.prog 306 (.agg #[.int .u64 0, .int .u64 0, .int .u64 0, .int .u64 0, .int .u64 0, .int .u64 0, .int .u64 0, .int .u64 0, .int .u64 0, .int .u64 0, .int .u64 0, .int .u64 0, .int .u64 0, .int .u64 0, .int .u64 0, .int .u64 0, .int .u64 0, .int .u64 0, .int .u64 0, .int .u64 0]) := TyZ.of (by kernel_rfl)
theorem by306 : TyB Tryz.prog 306 160 := TyB.of (by kernel_rfl)
theorem ty307 : Ty Tryz.prog 307 true 65 := Ty.of Tryz.underlying307 rfl (by kernel_rfl)
theorem by307 : TyB Tryz.prog 307 65 := TyB.of (by kernel_rfl)
theorem ty309 : Ty Tryz.prog 309 true 256 := Ty.of Tryz.underlying309 rfl (by kernel_rfl)
theorem by309 : TyB Tryz.prog 309 256 := TyB.of (by kernel_rfl)
theorem ty311 : Ty Tryz.prog 311 true 2 := Ty.of Tryz.underlying311 rfl (by kernel_rfl)
theorem z311 : TyZ Tryz.prog 311 (.agg #[.int .u8 0, .int .u8 0]) := TyZ.of (by kernel_rfl)
theorem by311 : TyB Tryz.prog 311 2 := TyB.of (by kernel_rfl)
theorem f311_0 : Fld Tryz.prog 311 0 0 := Fld.of (by kernel_rfl)
theorem f311_1 : Fld Tryz.prog 311 1 1 := Fld.of (by kernel_rfl)
theorem ty312 : Ty Tryz.prog 312 true 32 := Ty.of Tryz.underlying312 rfl (by kernel_rfl)
theorem z312 : TyZ Tryz.prog 312 (.agg #[.int .u8 0, .int .u8 0, .int .u8 0, .int .u8 0, .int .u8 0, .int .u8 0, .int .u8 0, .int .u8 0, .int .u8 0, .int .u8 0, .int .u8 0, .int .u8 0, .int .u8 0, .int .u8 0, .int .u8 0, .int .u8 0, .int .u8 0, .int .u8 0, .int .u8 0, .int .u8 0, .int .u8 0, .int .u8 0, .int .u8 0, .int .u8 0, .int .u8 0, .int .u8 0, .int .u8 0, .int .u8 0, .int .u8 0, .int .u8 0, .int .u8 0, .int .u8 0]) := TyZ.of (by kernel_rfl)
theorem by312 : TyB Tryz.prog 312 32 := TyB.of (by kernel_rfl)
theorem ty313 : Ty Tryz.prog 313 true 8 := Ty.of Tryz.underlying313 rfl (by kernel_rfl)
theorem z313 : TyZ Tryz.prog 313 (.agg #[.int .u8 0, .int .u8 0, .int .u8 0, .int .u8 0, .int .u8 0, .int .u8 0, .int .u8 0, .int .u8 0]) := TyZ.of (by kernel_rfl)
theorem by313 : TyB Tryz.prog 313 8 := TyB.of (by kernel_rfl)
theorem ty320 : Ty Tryz.prog 320 true 32 := Ty.of Tryz.underlying320 rfl (by kernel_rfl)
theorem z320 : TyZ Tryz.prog 320 (.agg #[.int .u8 0, .int .u8 0, .int .u8 0, .int .u8 0, .int .u8 0, .int .u8 0, .int .u8 0, .int .u8 0, .int .u8 0, .int .u8 0, .int .u8 0, .int .u8 0, .int .u8 0, .int .u8 0, .int .u8 0, .int .u8 0, .int .u8 0, .int .u8 0, .int .u8 0, .int .u8 0, .int .u8 0, .int .u8 0, .int .u8 0, .int .u8 0, .int .u8 0, .int .u8 0, .int .u8 0, .int .u8 0, .int .u8 0, .int .u8 0, .int .u8 0, .int .u8 0]) := TyZ.of (by kernel_rfl)
theorem by320 : TyB Tryz.prog 320 32 := TyB.of (by kernel_rfl)
theorem ty326 : Ty Tryz.prog 326 false 1 := Ty.of Tryz.underlying326 rfl (by kernel_rfl)
theorem z326 : TyZ Tryz.prog 326 (.pointer none) := TyZ.of (by kernel_rfl)
theorem by326 : TyB Tryz.prog 326 8 := TyB.of (by kernel_rfl)
theorem ty327 : Ty Tryz.prog 327 true 800 := Ty.of Tryz.underlying327 rfl (by kernel_rfl)
theorem by327 : TyB Tryz.prog 327 800 := TyB.of (by kernel_rfl)
theorem ty329 : Ty Tryz.prog 329 true 804 := Ty.of Tryz.underlying329 rfl (by kernel_rfl)
theorem by329 : TyB Tryz.prog 329 824 := TyB.of (by kernel_rfl)
theorem f329_0 : Fld Tryz.prog 329 0 0 := Fld.of (by kernel_rfl)
theorem f329_1 : Fld Tryz.prog 329 1 800 := Fld.of (by kernel_rfl)
theorem f329_2 : Fld Tryz.prog 329 2 801 := Fld.of (by kernel_rfl)
theorem f329_3 : Fld Tryz.prog 329 3 802 := Fld.of (by kernel_rfl)
theorem f329_4 : Fld Tryz.prog 329 4 803 := Fld.of (by kernel_rfl)
theorem ty331 : Ty Tryz.prog 331 false 1 := Ty.of Tryz.underlying331 rfl (by kernel_rfl)
theorem z331 : TyZ Tryz.prog 331 (.pointer none) := TyZ.of (by kernel_rfl)
theorem by331 : TyB Tryz.prog 331 8 := TyB.of (by kernel_rfl)
theorem ty338 : Ty Tryz.prog 338 true 3 := Ty.of Tryz.underlying338 rfl (by kernel_rfl)
theorem z338 : TyZ Tryz.prog 338 (.agg #[.int .u64 0, .int .u64 0, .int .i64 0]) := TyZ.of (by kernel_rfl)
theorem by338 : TyB Tryz.prog 338 24 := TyB.of (by kernel_rfl)
theorem f338_0 : Fld Tryz.prog 338 0 0 := Fld.of (by kernel_rfl)
theorem f338_1 : Fld Tryz.prog 338 1 1 := Fld.of (by kernel_rfl)
theorem f338_2 : Fld Tryz.prog 338 2 2 := Fld.of (by kernel_rfl)
theorem ty340 : Ty Tryz.prog 340 false 1 := Ty.of Tryz.underlying340 rfl (by kernel_rfl)
theorem z340 : TyZ Tryz.prog 340 (.pointer none) := TyZ.of (by kernel_rfl)
theorem by340 : TyB Tryz.prog 340 8 := TyB.of (by kernel_rfl)
theorem ty341 : Ty Tryz.prog 341 false 1 := Ty.of Tryz.underlying341 rfl (by kernel_rfl)
theorem z341 : TyZ Tryz.prog 341 (.int .u64 0) := TyZ.of (by kernel_rfl)
theorem by341 : TyB Tryz.prog 341 8 := TyB.of (by kernel_rfl)
theorem ty348 : Ty Tryz.prog 348 true 64 := Ty.of Tryz.underlying348 rfl (by kernel_rfl)
theorem by348 : TyB Tryz.prog 348 64 := TyB.of (by kernel_rfl)
theorem ty350 : Ty Tryz.prog 350 true 2 := Ty.of Tryz.underlying350 rfl (by kernel_rfl)
theorem z350 : TyZ Tryz.prog 350 (.agg #[.int .u64 0, .int .u64 0]) := TyZ.of (by kernel_rfl)
theorem by350 : TyB Tryz.prog 350 16 := TyB.of (by kernel_rfl)
theorem f350_0 : Fld Tryz.prog 350 0 0 := Fld.of (by kernel_rfl)
theorem f350_1 : Fld Tryz.prog 350 1 1 := Fld.of (by kernel_rfl)
theorem ty351 : Ty Tryz.prog 351 true 1392 := Ty.of Tryz.underlying351 rfl (by kernel_rfl)
theorem by351 : TyB Tryz.prog 351 11136 := TyB.of (by kernel_rfl)
theorem ty356 : Ty Tryz.prog 356 true 2 := Ty.of Tryz.underlying356 rfl (by kernel_rfl)
theorem z356 : TyZ Tryz.prog 356 (.agg #[.int .i64 0, .string ⟨#[]⟩]) := TyZ.of (by kernel_rfl)
theorem by356 : TyB Tryz.prog 356 24 := TyB.of (by kernel_rfl)
theorem f356_0 : Fld Tryz.prog 356 0 0 := Fld.of (by kernel_rfl)
theorem f356_1 : Fld Tryz.prog 356 1 1 := Fld.of (by kernel_rfl)
theorem ty357 : Ty Tryz.prog 357 false 1 := Ty.of Tryz.underlying357 rfl (by kernel_rfl)
theorem z357 : TyZ Tryz.prog 357 (.slice none 0 0) := TyZ.of (by kernel_rfl)
theorem by357 : TyB Tryz.prog 357 24 := TyB.of (by kernel_rfl)
theorem ty360 : Ty Tryz.prog 360 true 4 := Ty.of Tryz.underlying360 rfl (by kernel_rfl)
theorem z360 : TyZ Tryz.prog 360 (.agg #[.pointer none, .pointer none, .pointer none, .string ⟨#[]⟩]) := TyZ.of (by kernel_rfl)
theorem by360 : TyB Tryz.prog 360 40 := TyB.of (by kernel_rfl)
theorem f360_0 : Fld Tryz.prog 360 0 0 := Fld.of (by kernel_rfl)
theorem f360_1 : Fld Tryz.prog 360 1 1 := Fld.of (by kernel_rfl)
theorem f360_2 : Fld Tryz.prog 360 2 2 := Fld.of (by kernel_rfl)
theorem f360_3 : Fld Tryz.prog 360 3 3 := Fld.of (by kernel_rfl)
theorem ty363 : Ty Tryz.prog 363 true 0 := Ty.of Tryz.underlying363 rfl (by kernel_rfl)
theorem z363 : TyZ Tryz.prog 363 (.agg #[]) := TyZ.of (by kernel_rfl)
theorem by363 : TyB Tryz.prog 363 0 := TyB.of (by kernel_rfl)
theorem ty365 : Ty Tryz.prog 365 false 1 := Ty.of Tryz.underlying365 rfl (by kernel_rfl)
theorem z365 : TyZ Tryz.prog 365 (.int .u8 0) := TyZ.of (by kernel_rfl)
theorem by365 : TyB Tryz.prog 365 1 := TyB.of (by kernel_rfl)
theorem ty370 : Ty Tryz.prog 370 true 11 := Ty.of Tryz.underlying370 rfl (by kernel_rfl)
theorem z370 : TyZ Tryz.prog 370 (.agg #[.int .u64 0, .int .u64 0, .int .u32 0, .int .u8 0, .int .u8 0, .int .u8 0, .int .u8 0, .nilFunc, .pointer none, .int .i32 0, .int .i32 0]) := TyZ.of (by kernel_rfl)
theorem by370 : TyB Tryz.prog 370 48 := TyB.of (by kernel_rfl)
theorem f370_0 : Fld Tryz.prog 370 0 0 := Fld.of (by kernel_rfl)
theorem f370_1 : Fld Tryz.prog 370 1 1 := Fld.of (by kernel_rfl)
theorem f370_2 : Fld Tryz.prog 370 2 2 := Fld.of (by kernel_rfl)
theorem f370_3 : Fld Tryz.prog 370 3 3 := Fld.of (by kernel_rfl)
theorem f370_4 : Fld Tryz.prog 370 4 4 := Fld.of (by kernel_rfl)
theorem f370_5 : Fld Tryz.prog 370 5 5 := Fld.of (by kernel_rfl)
theorem f370_6 : Fld Tryz.prog 370 6 6 := Fld.of (by kernel_rfl)
theorem f370_7 : Fld Tryz.prog 370 7 7 := Fld.of (by kernel_rfl)
theorem f370_8 : Fld Tryz.prog 370 8 8 := Fld.of (by kernel_rfl)
theorem f370_9 : Fld Tryz.prog 370 9 9 := Fld.of (by kernel_rfl)
theorem f370_10 : Fld Tryz.prog 370 10 10 := Fld.of (by kernel_rfl)
theorem ty373 : Ty Tryz.prog 373 false 1 := Ty.of Tryz.underlying373 rfl (by kernel_rfl)
theorem z373 : TyZ Tryz.prog 373 (.pointer none) := TyZ.of (by kernel_rfl)
theorem by373 : TyB Tryz.prog 373 8 := TyB.of (by kernel_rfl)
theorem ty375 : Ty Tryz.prog 375 false 1 := Ty.of Tryz.underlying375 rfl (by kernel_rfl)
theorem z375 : TyZ Tryz.prog 375 (.int .i8 0) := TyZ.of (by kernel_rfl)
theorem by375 : TyB Tryz.prog 375 1 := TyB.of (by kernel_rfl)
theorem ty377 : Ty Tryz.prog 377 true 3 := Ty.of Tryz.underlying377 rfl (by kernel_rfl)
theorem z377 : TyZ Tryz.prog 377 (.agg #[.slice none 0 0, .int .i64 0, .int .i8 0]) := TyZ.of (by kernel_rfl)
theorem by377 : TyB Tryz.prog 377 40 := TyB.of (by kernel_rfl)
theorem f377_0 : Fld Tryz.prog 377 0 0 := Fld.of (by kernel_rfl)
theorem f377_1 : Fld Tryz.prog 377 1 1 := Fld.of (by kernel_rfl)
theorem f377_2 : Fld Tryz.prog 377 2 2 := Fld.of (by kernel_rfl)
theorem ty386 : Ty Tryz.prog 386 false 1 := Ty.of Tryz.underlying386 rfl (by kernel_rfl)
theorem z386 : TyZ Tryz.prog 386 (.pointer none) := TyZ.of (by kernel_rfl)
theorem by386 : TyB Tryz.prog 386 8 := TyB.of (by kernel_rfl)
theorem ty388 : Ty Tryz.prog 388 true 1 := Ty.of Tryz.underlying388 rfl (by kernel_rfl)
theorem z388 : TyZ Tryz.prog 388 (.agg #[.int .u64 0]) := TyZ.of (by kernel_rfl)
theorem by388 : TyB Tryz.prog 388 8 := TyB.of (by kernel_rfl)
theorem f388_0 : Fld Tryz.prog 388 0 0 := Fld.of (by kernel_rfl)
theorem ty390 : Ty Tryz.prog 390 true 1 := Ty.of Tryz.underlying390 rfl (by kernel_rfl)
theorem z390 : TyZ Tryz.prog 390 (.agg #[.string ⟨#[]⟩]) := TyZ.of (by kernel_rfl)
theorem by390 : TyB Tryz.prog 390 16 := TyB.of (by kernel_rfl)
theorem f390_0 : Fld Tryz.prog 390 0 0 := Fld.of (by kernel_rfl)
theorem is3 : IsFn Tryz.prog 3 := IsFn.of Tryz.func3 (by kernel_rfl) (by kernel_rfl)
theorem is4 : IsFn Tryz.prog 4 := IsFn.of Tryz.func4 (by kernel_rfl) (by kernel_rfl)
theorem is5 : IsFn Tryz.prog 5 := IsFn.of Tryz.func5 (by kernel_rfl) (by kernel_rfl)
theorem is6 : IsFn Tryz.prog 6 := IsFn.of Tryz.func6 (by kernel_rfl) (by kernel_rfl)
theorem is7 : IsFn Tryz.prog 7 := IsFn.of Tryz.func7 (by kernel_rfl) (by kernel_rfl)
theorem is8 : IsFn Tryz.prog 8 := IsFn.of Tryz.func8 (by kernel_rfl) (by kernel_rfl)
theorem is9 : IsFn Tryz.prog 9 := IsFn.of Tryz.func9 (by kernel_rfl) (by kernel_rfl)
theorem is10 : IsFn Tryz.prog 10 := IsFn.of Tryz.func10 (by kernel_rfl) (by kernel_rfl)
theorem is11 : IsFn Tryz.prog 11 := IsFn.of Tryz.func11 (by kernel_rfl) (by kernel_rfl)
theorem is12 : IsFn Tryz.prog 12 := IsFn.of Tryz.func12 (by kernel_rfl) (by kernel_rfl)
theorem is13 : IsFn Tryz.prog 13 := IsFn.of Tryz.func13 (by kernel_rfl) (by kernel_rfl)
theorem is14 : IsFn Tryz.prog 14 := IsFn.of Tryz.func14 (by kernel_rfl) (by kernel_rfl)
theorem is15 : IsFn Tryz.prog 15 := IsFn.of Tryz.func15 (by kernel_rfl) (by kernel_rfl)
theorem is16 : IsFn Tryz.prog 16 := IsFn.of Tryz.func16 (by kernel_rfl) (by kernel_rfl)
theorem is17 : IsFn Tryz.prog 17 := IsFn.of Tryz.func17 (by kernel_rfl) (by kernel_rfl)
theorem is18 : IsFn Tryz.prog 18 := IsFn.of Tryz.func18 (by kernel_rfl) (by kernel_rfl)
theorem is19 : IsFn Tryz.prog 19 := IsFn.of Tryz.func19 (by kernel_rfl) (by kernel_rfl)
theorem is20 : IsFn Tryz.prog 20 := IsFn.of Tryz.func20 (by kernel_rfl) (by kernel_rfl)
theorem is21 : IsFn Tryz.prog 21 := IsFn.of Tryz.func21 (by kernel_rfl) (by kernel_rfl)
theorem is22 : IsFn Tryz.prog 22 := IsFn.of Tryz.func22 (by kernel_rfl) (by kernel_rfl)
theorem is23 : IsFn Tryz.prog 23 := IsFn.of Tryz.func23 (by kernel_rfl) (by kernel_rfl)
theorem is24 : IsFn Tryz.prog 24 := IsFn.of Tryz.func24 (by kernel_rfl) (by kernel_rfl)
theorem is25 : IsFn Tryz.prog 25 := IsFn.of Tryz.func25 (by kernel_rfl) (by kernel_rfl)
theorem is26 : IsFn Tryz.prog 26 := IsFn.of Tryz.func26 (by kernel_rfl) (by kernel_rfl)
theorem is27 : IsFn Tryz.prog 27 := IsFn.of Tryz.func27 (by kernel_rfl) (by kernel_rfl)
theorem is28 : IsFn Tryz.prog 28 := IsFn.of Tryz.func28 (by kernel_rfl) (by kernel_rfl)
theorem is29 : IsFn Tryz.prog 29 := IsFn.of Tryz.func29 (by kernel_rfl) (by kernel_rfl)
theorem is30 : IsFn Tryz.prog 30 := IsFn.of Tryz.func30 (by kernel_rfl) (by kernel_rfl)
theorem is31 : IsFn Tryz.prog 31 := IsFn.of Tryz.func31 (by kernel_rfl) (by kernel_rfl)
theorem is32 : IsFn Tryz.prog 32 := IsFn.of Tryz.func32 (by kernel_rfl) (by kernel_rfl)
theorem is33 : IsFn Tryz.prog 33 := IsFn.of Tryz.func33 (by kernel_rfl) (by kernel_rfl)
theorem is34 : IsFn Tryz.prog 34 := IsFn.of Tryz.func34 (by kernel_rfl) (by kernel_rfl)
theorem is35 : IsFn Tryz.prog 35 := IsFn.of Tryz.func35 (by kernel_rfl) (by kernel_rfl)
theorem is36 : IsFn Tryz.prog 36 := IsFn.of Tryz.func36 (by kernel_rfl) (by kernel_rfl)
theorem is37 : IsFn Tryz.prog 37 := IsFn.of Tryz.func37 (by kernel_rfl) (by kernel_rfl)
theorem is38 : IsFn Tryz.prog 38 := IsFn.of Tryz.func38 (by kernel_rfl) (by kernel_rfl)
theorem is39 : IsFn Tryz.prog 39 := IsFn.of Tryz.func39 (by kernel_rfl) (by kernel_rfl)
theorem is40 : IsFn Tryz.prog 40 := IsFn.of Tryz.func40 (by kernel_rfl) (by kernel_rfl)
theorem is41 : IsFn Tryz.prog 41 := IsFn.of Tryz.func41 (by kernel_rfl) (by kernel_rfl)
theorem is42 : IsFn Tryz.prog 42 := IsFn.of Tryz.func42 (by kernel_rfl) (by kernel_rfl)
theorem is43 : IsFn Tryz.prog 43 := IsFn.of Tryz.func43 (by kernel_rfl) (by kernel_rfl)
theorem is44 : IsFn Tryz.prog 44 := IsFn.of Tryz.func44 (by kernel_rfl) (by kernel_rfl)
theorem is45 : IsFn Tryz.prog 45 := IsFn.of Tryz.func45 (by kernel_rfl) (by kernel_rfl)
theorem is46 : IsFn Tryz.prog 46 := IsFn.of Tryz.func46 (by kernel_rfl) (by kernel_rfl)
theorem is47 : IsFn Tryz.prog 47 := IsFn.of Tryz.func47 (by kernel_rfl) (by kernel_rfl)
theorem is48 : IsFn Tryz.prog 48 := IsFn.of Tryz.func48 (by kernel_rfl) (by kernel_rfl)
theorem is49 : IsFn Tryz.prog 49 := IsFn.of Tryz.func49 (by kernel_rfl) (by kernel_rfl)
theorem is50 : IsFn Tryz.prog 50 := IsFn.of Tryz.func50 (by kernel_rfl) (by kernel_rfl)
theorem is51 : IsFn Tryz.prog 51 := IsFn.of Tryz.func51 (by kernel_rfl) (by kernel_rfl)
theorem is52 : IsFn Tryz.prog 52 := IsFn.of Tryz.func52 (by kernel_rfl) (by kernel_rfl)
theorem is53 : IsFn Tryz.prog 53 := IsFn.of Tryz.func53 (by kernel_rfl) (by kernel_rfl)
theorem is54 : IsFn Tryz.prog 54 := IsFn.of Tryz.func54 (by kernel_rfl) (by kernel_rfl)
theorem is55 : IsFn Tryz.prog 55 := IsFn.of Tryz.func55 (by kernel_rfl) (by kernel_rfl)
theorem is56 : IsFn Tryz.prog 56 := IsFn.of Tryz.func56 (by kernel_rfl) (by kernel_rfl)
theorem is57 : IsFn Tryz.prog 57 := IsFn.of Tryz.func57 (by kernel_rfl) (by kernel_rfl)
theorem is58 : IsFn Tryz.prog 58 := IsFn.of Tryz.func58 (by kernel_rfl) (by kernel_rfl)
theorem is59 : IsFn Tryz.prog 59 := IsFn.of Tryz.func59 (by kernel_rfl) (by kernel_rfl)
theorem is60 : IsFn Tryz.prog 60 := IsFn.of Tryz.func60 (by kernel_rfl) (by kernel_rfl)
theorem is61 : IsFn Tryz.prog 61 := IsFn.of Tryz.func61 (by kernel_rfl) (by kernel_rfl)
theorem is62 : IsFn Tryz.prog 62 := IsFn.of Tryz.func62 (by kernel_rfl) (by kernel_rfl)
theorem is63 : IsFn Tryz.prog 63 := IsFn.of Tryz.func63 (by kernel_rfl) (by kernel_rfl)
theorem is64 : IsFn Tryz.prog 64 := IsFn.of Tryz.func64 (by kernel_rfl) (by kernel_rfl)
theorem is65 : IsFn Tryz.prog 65 := IsFn.of Tryz.func65 (by kernel_rfl) (by kernel_rfl)
theorem is66 : IsFn Tryz.prog 66 := IsFn.of Tryz.func66 (by kernel_rfl) (by kernel_rfl)
theorem is67 : IsFn Tryz.prog 67 := IsFn.of Tryz.func67 (by kernel_rfl) (by kernel_rfl)
theorem is68 : IsFn Tryz.prog 68 := IsFn.of Tryz.func68 (by kernel_rfl) (by kernel_rfl)
theorem is69 : IsFn Tryz.prog 69 := IsFn.of Tryz.func69 (by kernel_rfl) (by kernel_rfl)
theorem is70 : IsFn Tryz.prog 70 := IsFn.of Tryz.func70 (by kernel_rfl) (by kernel_rfl)
theorem is71 : IsFn Tryz.prog 71 := IsFn.of Tryz.func71 (by kernel_rfl) (by kernel_rfl)
theorem is72 : IsFn Tryz.prog 72 := IsFn.of Tryz.func72 (by kernel_rfl) (by kernel_rfl)
theorem is73 : IsFn Tryz.prog 73 := IsFn.of Tryz.func73 (by kernel_rfl) (by kernel_rfl)
theorem is74 : IsFn Tryz.prog 74 := IsFn.of Tryz.func74 (by kernel_rfl) (by kernel_rfl)
theorem is75 : IsFn Tryz.prog 75 := IsFn.of Tryz.func75 (by kernel_rfl) (by kernel_rfl)
theorem is76 : IsFn Tryz.prog 76 := IsFn.of Tryz.func76 (by kernel_rfl) (by kernel_rfl)
theorem is77 : IsFn Tryz.prog 77 := IsFn.of Tryz.func77 (by kernel_rfl) (by kernel_rfl)
theorem is78 : IsFn Tryz.prog 78 := IsFn.of Tryz.func78 (by kernel_rfl) (by kernel_rfl)
theorem is79 : IsFn Tryz.prog 79 := IsFn.of Tryz.func79 (by kernel_rfl) (by kernel_rfl)
theorem is80 : IsFn Tryz.prog 80 := IsFn.of Tryz.func80 (by kernel_rfl) (by kernel_rfl)
theorem is81 : IsFn Tryz.prog 81 := IsFn.of Tryz.func81 (by kernel_rfl) (by kernel_rfl)
theorem is82 : IsFn Tryz.prog 82 := IsFn.of Tryz.func82 (by kernel_rfl) (by kernel_rfl)
theorem is83 : IsFn Tryz.prog 83 := IsFn.of Tryz.func83 (by kernel_rfl) (by kernel_rfl)
theorem is84 : IsFn Tryz.prog 84 := IsFn.of Tryz.func84 (by kernel_rfl) (by kernel_rfl)
theorem is85 : IsFn Tryz.prog 85 := IsFn.of Tryz.func85 (by kernel_rfl) (by kernel_rfl)
theorem is86 : IsFn Tryz.prog 86 := IsFn.of Tryz.func86 (by kernel_rfl) (by kernel_rfl)
theorem is87 : IsFn Tryz.prog 87 := IsFn.of Tryz.func87 (by kernel_rfl) (by kernel_rfl)
theorem is88 : IsFn Tryz.prog 88 := IsFn.of Tryz.func88 (by kernel_rfl) (by kernel_rfl)
theorem is89 : IsFn Tryz.prog 89 := IsFn.of Tryz.func89 (by kernel_rfl) (by kernel_rfl)
theorem is90 : IsFn Tryz.prog 90 := IsFn.of Tryz.func90 (by kernel_rfl) (by kernel_rfl)
theorem is91 : IsFn Tryz.prog 91 := IsFn.of Tryz.func91 (by kernel_rfl) (by kernel_rfl)
theorem is92 : IsFn Tryz.prog 92 := IsFn.of Tryz.func92 (by kernel_rfl) (by kernel_rfl)
theorem is93 : IsFn Tryz.prog 93 := IsFn.of Tryz.func93 (by kernel_rfl) (by kernel_rfl)
theorem is94 : IsFn Tryz.prog 94 := IsFn.of Tryz.func94 (by kernel_rfl) (by kernel_rfl)
theorem is95 : IsFn Tryz.prog 95 := IsFn.of Tryz.func95 (by kernel_rfl) (by kernel_rfl)
theorem is96 : IsFn Tryz.prog 96 := IsFn.of Tryz.func96 (by kernel_rfl) (by kernel_rfl)
theorem is98 : IsFn Tryz.prog 98 := IsFn.of Tryz.func98 (by kernel_rfl) (by kernel_rfl)
theorem is99 : IsFn Tryz.prog 99 := IsFn.of Tryz.func99 (by kernel_rfl) (by kernel_rfl)
theorem is100 : IsFn Tryz.prog 100 := IsFn.of Tryz.func100 (by kernel_rfl) (by kernel_rfl)
theorem is101 : IsFn Tryz.prog 101 := IsFn.of Tryz.func101 (by kernel_rfl) (by kernel_rfl)
theorem is102 : IsFn Tryz.prog 102 := IsFn.of Tryz.func102 (by kernel_rfl) (by kernel_rfl)
theorem is103 : IsFn Tryz.prog 103 := IsFn.of Tryz.func103 (by kernel_rfl) (by kernel_rfl)
theorem is104 : IsFn Tryz.prog 104 := IsFn.of Tryz.func104 (by kernel_rfl) (by kernel_rfl)
theorem is105 : IsFn Tryz.prog 105 := IsFn.of Tryz.func105 (by kernel_rfl) (by kernel_rfl)
theorem is106 : IsFn Tryz.prog 106 := IsFn.of Tryz.func106 (by kernel_rfl) (by kernel_rfl)
theorem is107 : IsFn Tryz.prog 107 := IsFn.of Tryz.func107 (by kernel_rfl) (by kernel_rfl)
theorem is108 : IsFn Tryz.prog 108 := IsFn.of Tryz.func108 (by kernel_rfl) (by kernel_rfl)
theorem is109 : IsFn Tryz.prog 109 := IsFn.of Tryz.func109 (by kernel_rfl) (by kernel_rfl)
theorem is110 : IsFn Tryz.prog 110 := IsFn.of Tryz.func110 (by kernel_rfl) (by kernel_rfl)
theorem is111 : IsFn Tryz.prog 111 := IsFn.of Tryz.func111 (by kernel_rfl) (by kernel_rfl)
theorem is112 : IsFn Tryz.prog 112 := IsFn.of Tryz.func112 (by kernel_rfl) (by kernel_rfl)
theorem is113 : IsFn Tryz.prog 113 := IsFn.of Tryz.func113 (by kernel_rfl) (by kernel_rfl)
theorem is114 : IsFn Tryz.prog 114 := IsFn.of Tryz.func114 (by kernel_rfl) (by kernel_rfl)
theorem is115 : IsFn Tryz.prog 115 := IsFn.of Tryz.func115 (by kernel_rfl) (by kernel_rfl)
theorem is116 : IsFn Tryz.prog 116 := IsFn.of Tryz.func116 (by kernel_rfl) (by kernel_rfl)
theorem is117 : IsFn Tryz.prog 117 := IsFn.of Tryz.func117 (by kernel_rfl) (by kernel_rfl)
theorem is118 : IsFn Tryz.prog 118 := IsFn.of Tryz.func118 (by kernel_rfl) (by kernel_rfl)
theorem is119 : IsFn Tryz.prog 119 := IsFn.of Tryz.func119 (by kernel_rfl) (by kernel_rfl)
theorem is120 : IsFn Tryz.prog 120 := IsFn.of Tryz.func120 (by kernel_rfl) (by kernel_rfl)
theorem is121 : IsFn Tryz.prog 121 := IsFn.of Tryz.func121 (by kernel_rfl) (by kernel_rfl)
theorem is122 : IsFn Tryz.prog 122 := IsFn.of Tryz.func122 (by kernel_rfl) (by kernel_rfl)
theorem is123 : IsFn Tryz.prog 123 := IsFn.of Tryz.func123 (by kernel_rfl) (by kernel_rfl)
theorem is124 : IsFn Tryz.prog 124 := IsFn.of Tryz.func124 (by kernel_rfl) (by kernel_rfl)
theorem is125 : IsFn Tryz.prog 125 := IsFn.of Tryz.func125 (by kernel_rfl) (by kernel_rfl)
theorem is126 : IsFn Tryz.prog 126 := IsFn.of Tryz.func126 (by kernel_rfl) (by kernel_rfl)
theorem is127 : IsFn Tryz.prog 127 := IsFn.of Tryz.func127 (by kernel_rfl) (by kernel_rfl)
theorem is128 : IsFn Tryz.prog 128 := IsFn.of Tryz.func128 (by kernel_rfl) (by kernel_rfl)
theorem is129 : IsFn Tryz.prog 129 := IsFn.of Tryz.func129 (by kernel_rfl) (by kernel_rfl)
theorem is130 : IsFn Tryz.prog 130 := IsFn.of Tryz.func130 (by kernel_rfl) (by kernel_rfl)
theorem is131 : IsFn Tryz.prog 131 := IsFn.of Tryz.func131 (by kernel_rfl) (by kernel_rfl)
theorem is132 : IsFn Tryz.prog 132 := IsFn.of Tryz.func132 (by kernel_rfl) (by kernel_rfl)
theorem is133 : IsFn Tryz.prog 133 := IsFn.of Tryz.func133 (by kernel_rfl) (by kernel_rfl)
theorem is134 : IsFn Tryz.prog 134 := IsFn.of Tryz.func134 (by kernel_rfl) (by kernel_rfl)
theorem is135 : IsFn Tryz.prog 135 := IsFn.of Tryz.func135 (by kernel_rfl) (by kernel_rfl)
theorem is136 : IsFn Tryz.prog 136 := IsFn.of Tryz.func136 (by kernel_rfl) (by kernel_rfl)
theorem is137 : IsFn Tryz.prog 137 := IsFn.of Tryz.func137 (by kernel_rfl) (by kernel_rfl)
theorem is138 : IsFn Tryz.prog 138 := IsFn.of Tryz.func138 (by kernel_rfl) (by kernel_rfl)
theorem is139 : IsFn Tryz.prog 139 := IsFn.of Tryz.func139 (by kernel_rfl) (by kernel_rfl)
theorem is140 : IsFn Tryz.prog 140 := IsFn.of Tryz.func140 (by kernel_rfl) (by kernel_rfl)
theorem is141 : IsFn Tryz.prog 141 := IsFn.of Tryz.func141 (by kernel_rfl) (by kernel_rfl)
theorem is142 : IsFn Tryz.prog 142 := IsFn.of Tryz.func142 (by kernel_rfl) (by kernel_rfl)
theorem is143 : IsFn Tryz.prog 143 := IsFn.of Tryz.func143 (by kernel_rfl) (by kernel_rfl)
theorem is144 : IsFn Tryz.prog 144 := IsFn.of Tryz.func144 (by kernel_rfl) (by kernel_rfl)
theorem is145 : IsFn Tryz.prog 145 := IsFn.of Tryz.func145 (by kernel_rfl) (by kernel_rfl)
theorem is146 : IsFn Tryz.prog 146 := IsFn.of Tryz.func146 (by kernel_rfl) (by kernel_rfl)
theorem is147 : IsFn Tryz.prog 147 := IsFn.of Tryz.func147 (by kernel_rfl) (by kernel_rfl)
theorem is148 : IsFn Tryz.prog 148 := IsFn.of Tryz.func148 (by kernel_rfl) (by kernel_rfl)
theorem is149 : IsFn Tryz.prog 149 := IsFn.of Tryz.func149 (by kernel_rfl) (by kernel_rfl)
theorem is150 : IsFn Tryz.prog 150 := IsFn.of Tryz.func150 (by kernel_rfl) (by kernel_rfl)
theorem is151 : IsFn Tryz.prog 151 := IsFn.of Tryz.func151 (by kernel_rfl) (by kernel_rfl)
theorem is152 : IsFn Tryz.prog 152 := IsFn.of Tryz.func152 (by kernel_rfl) (by kernel_rfl)
theorem is153 : IsFn Tryz.prog 153 := IsFn.of Tryz.func153 (by kernel_rfl) (by kernel_rfl)
theorem is154 : IsFn Tryz.prog 154 := IsFn.of Tryz.func154 (by kernel_rfl) (by kernel_rfl)
theorem is155 : IsFn Tryz.prog 155 := IsFn.of Tryz.func155 (by kernel_rfl) (by kernel_rfl)
theorem is156 : IsFn Tryz.prog 156 := IsFn.of Tryz.func156 (by kernel_rfl) (by kernel_rfl)
theorem is157 : IsFn Tryz.prog 157 := IsFn.of Tryz.func157 (by kernel_rfl) (by kernel_rfl)
theorem is158 : IsFn Tryz.prog 158 := IsFn.of Tryz.func158 (by kernel_rfl) (by kernel_rfl)
theorem is159 : IsFn Tryz.prog 159 := IsFn.of Tryz.func159 (by kernel_rfl) (by kernel_rfl)
theorem is160 : IsFn Tryz.prog 160 := IsFn.of Tryz.func160 (by kernel_rfl) (by kernel_rfl)
theorem is161 : IsFn Tryz.prog 161 := IsFn.of Tryz.func161 (by kernel_rfl) (by kernel_rfl)
theorem is162 : IsFn Tryz.prog 162 := IsFn.of Tryz.func162 (by kernel_rfl) (by kernel_rfl)
theorem is163 : IsFn Tryz.prog 163 := IsFn.of Tryz.func163 (by kernel_rfl) (by kernel_rfl)
theorem is164 : IsFn Tryz.prog 164 := IsFn.of Tryz.func164 (by kernel_rfl) (by kernel_rfl)
theorem is165 : IsFn Tryz.prog 165 := IsFn.of Tryz.func165 (by kernel_rfl) (by kernel_rfl)
theorem is166 : IsFn Tryz.prog 166 := IsFn.of Tryz.func166 (by kernel_rfl) (by kernel_rfl)
theorem is167 : IsFn Tryz.prog 167 := IsFn.of Tryz.func167 (by kernel_rfl) (by kernel_rfl)
theorem is168 : IsFn Tryz.prog 168 := IsFn.of Tryz.func168 (by kernel_rfl) (by kernel_rfl)
theorem is169 : IsFn Tryz.prog 169 := IsFn.of Tryz.func169 (by kernel_rfl) (by kernel_rfl)
theorem is170 : IsFn Tryz.prog 170 := IsFn.of Tryz.func170 (by kernel_rfl) (by kernel_rfl)
theorem is171 : IsFn Tryz.prog 171 := IsFn.of Tryz.func171 (by kernel_rfl) (by kernel_rfl)
theorem is172 : IsFn Tryz.prog 172 := IsFn.of Tryz.func172 (by kernel_rfl) (by kernel_rfl)
theorem is173 : IsFn Tryz.prog 173 := IsFn.of Tryz.func173 (by kernel_rfl) (by kernel_rfl)
theorem is174 : IsFn Tryz.prog 174 := IsFn.of Tryz.func174 (by kernel_rfl) (by kernel_rfl)
theorem is175 : IsFn Tryz.prog 175 := IsFn.of Tryz.func175 (by kernel_rfl) (by kernel_rfl)
theorem is176 : IsFn Tryz.prog 176 := IsFn.of Tryz.func176 (by kernel_rfl) (by kernel_rfl)
theorem is178 : IsFn Tryz.prog 178 := IsFn.of Tryz.func178 (by kernel_rfl) (by kernel_rfl)
theorem is179 : IsFn Tryz.prog 179 := IsFn.of Tryz.func179 (by kernel_rfl) (by kernel_rfl)
theorem is180 : IsFn Tryz.prog 180 := IsFn.of Tryz.func180 (by kernel_rfl) (by kernel_rfl)
theorem is181 : IsFn Tryz.prog 181 := IsFn.of Tryz.func181 (by kernel_rfl) (by kernel_rfl)
theorem is182 : IsFn Tryz.prog 182 := IsFn.of Tryz.func182 (by kernel_rfl) (by kernel_rfl)
theorem is183 : IsFn Tryz.prog 183 := IsFn.of Tryz.func183 (by kernel_rfl) (by kernel_rfl)
theorem is184 : IsFn Tryz.prog 184 := IsFn.of Tryz.func184 (by kernel_rfl) (by kernel_rfl)
theorem is185 : IsFn Tryz.prog 185 := IsFn.of Tryz.func185 (by kernel_rfl) (by kernel_rfl)
theorem is186 : IsFn Tryz.prog 186 := IsFn.of Tryz.func186 (by kernel_rfl) (by kernel_rfl)
theorem is187 : IsFn Tryz.prog 187 := IsFn.of Tryz.func187 (by kernel_rfl) (by kernel_rfl)
theorem is188 : IsFn Tryz.prog 188 := IsFn.of Tryz.func188 (by kernel_rfl) (by kernel_rfl)
theorem is189 : IsFn Tryz.prog 189 := IsFn.of Tryz.func189 (by kernel_rfl) (by kernel_rfl)
theorem is190 : IsFn Tryz.prog 190 := IsFn.of Tryz.func190 (by kernel_rfl) (by kernel_rfl)
theorem is191 : IsFn Tryz.prog 191 := IsFn.of Tryz.func191 (by kernel_rfl) (by kernel_rfl)
theorem is192 : IsFn Tryz.prog 192 := IsFn.of Tryz.func192 (by kernel_rfl) (by kernel_rfl)
theorem is193 : IsFn Tryz.prog 193 := IsFn.of Tryz.func193 (by kernel_rfl) (by kernel_rfl)
theorem is194 : IsFn Tryz.prog 194 := IsFn.of Tryz.func194 (by kernel_rfl) (by kernel_rfl)
theorem is195 : IsFn Tryz.prog 195 := IsFn.of Tryz.func195 (by kernel_rfl) (by kernel_rfl)
theorem is196 : IsFn Tryz.prog 196 := IsFn.of Tryz.func196 (by kernel_rfl) (by kernel_rfl)
theorem is197 : IsFn Tryz.prog 197 := IsFn.of Tryz.func197 (by kernel_rfl) (by kernel_rfl)
theorem is198 : IsFn Tryz.prog 198 := IsFn.of Tryz.func198 (by kernel_rfl) (by kernel_rfl)
theorem is199 : IsFn Tryz.prog 199 := IsFn.of Tryz.func199 (by kernel_rfl) (by kernel_rfl)
theorem is201 : IsFn Tryz.prog 201 := IsFn.of Tryz.func201 (by kernel_rfl) (by kernel_rfl)
theorem is202 : IsFn Tryz.prog 202 := IsFn.of Tryz.func202 (by kernel_rfl) (by kernel_rfl)
theorem is203 : IsFn Tryz.prog 203 := IsFn.of Tryz.func203 (by kernel_rfl) (by kernel_rfl)
theorem is204 : IsFn Tryz.prog 204 := IsFn.of Tryz.func204 (by kernel_rfl) (by kernel_rfl)
theorem is205 : IsFn Tryz.prog 205 := IsFn.of Tryz.func205 (by kernel_rfl) (by kernel_rfl)
theorem is206 : IsFn Tryz.prog 206 := IsFn.of Tryz.func206 (by kernel_rfl) (by kernel_rfl)
theorem is207 : IsFn Tryz.prog 207 := IsFn.of Tryz.func207 (by kernel_rfl) (by kernel_rfl)
theorem is208 : IsFn Tryz.prog 208 := IsFn.of Tryz.func208 (by kernel_rfl) (by kernel_rfl)
theorem is209 : IsFn Tryz.prog 209 := IsFn.of Tryz.func209 (by kernel_rfl) (by kernel_rfl)
theorem is210 : IsFn Tryz.prog 210 := IsFn.of Tryz.func210 (by kernel_rfl) (by kernel_rfl)
theorem is211 : IsFn Tryz.prog 211 := IsFn.of Tryz.func211 (by kernel_rfl) (by kernel_rfl)
theorem is212 : IsFn Tryz.prog 212 := IsFn.of Tryz.func212 (by kernel_rfl) (by kernel_rfl)
theorem is213 : IsFn Tryz.prog 213 := IsFn.of Tryz.func213 (by kernel_rfl) (by kernel_rfl)
theorem is214 : IsFn Tryz.prog 214 := IsFn.of Tryz.func214 (by kernel_rfl) (by kernel_rfl)
theorem is215 : IsFn Tryz.prog 215 := IsFn.of Tryz.func215 (by kernel_rfl) (by kernel_rfl)
theorem is216 : IsFn Tryz.prog 216 := IsFn.of Tryz.func216 (by kernel_rfl) (by kernel_rfl)
theorem is217 : IsFn Tryz.prog 217 := IsFn.of Tryz.func217 (by kernel_rfl) (by kernel_rfl)
theorem is218 : IsFn Tryz.prog 218 := IsFn.of Tryz.func218 (by kernel_rfl) (by kernel_rfl)
theorem is219 : IsFn Tryz.prog 219 := IsFn.of Tryz.func219 (by kernel_rfl) (by kernel_rfl)
theorem is220 : IsFn Tryz.prog 220 := IsFn.of Tryz.func220 (by kernel_rfl) (by kernel_rfl)
theorem is221 : IsFn Tryz.prog 221 := IsFn.of Tryz.func221 (by kernel_rfl) (by kernel_rfl)
theorem is222 : IsFn Tryz.prog 222 := IsFn.of Tryz.func222 (by kernel_rfl) (by kernel_rfl)
theorem is223 : IsFn Tryz.prog 223 := IsFn.of Tryz.func223 (by kernel_rfl) (by kernel_rfl)
theorem is224 : IsFn Tryz.prog 224 := IsFn.of Tryz.func224 (by kernel_rfl) (by kernel_rfl)
theorem is225 : IsFn Tryz.prog 225 := IsFn.of Tryz.func225 (by kernel_rfl) (by kernel_rfl)
theorem is226 : IsFn Tryz.prog 226 := IsFn.of Tryz.func226 (by kernel_rfl) (by kernel_rfl)
theorem is227 : IsFn Tryz.prog 227 := IsFn.of Tryz.func227 (by kernel_rfl) (by kernel_rfl)
theorem is228 : IsFn Tryz.prog 228 := IsFn.of Tryz.func228 (by kernel_rfl) (by kernel_rfl)
theorem is229 : IsFn Tryz.prog 229 := IsFn.of Tryz.func229 (by kernel_rfl) (by kernel_rfl)
theorem is230 : IsFn Tryz.prog 230 := IsFn.of Tryz.func230 (by kernel_rfl) (by kernel_rfl)
theorem is231 : IsFn Tryz.prog 231 := IsFn.of Tryz.func231 (by kernel_rfl) (by kernel_rfl)
theorem is232 : IsFn Tryz.prog 232 := IsFn.of Tryz.func232 (by kernel_rfl) (by kernel_rfl)
theorem is233 : IsFn Tryz.prog 233 := IsFn.of Tryz.func233 (by kernel_rfl) (by kernel_rfl)
theorem is234 : IsFn Tryz.prog 234 := IsFn.of Tryz.func234 (by kernel_rfl) (by kernel_rfl)
theorem is235 : IsFn Tryz.prog 235 := IsFn.of Tryz.func235 (by kernel_rfl) (by kernel_rfl)
theorem is236 : IsFn Tryz.prog 236 := IsFn.of Tryz.func236 (by kernel_rfl) (by kernel_rfl)
theorem is237 : IsFn Tryz.prog 237 := IsFn.of Tryz.func237 (by kernel_rfl) (by kernel_rfl)
theorem is238 : IsFn Tryz.prog 238 := IsFn.of Tryz.func238 (by kernel_rfl) (by kernel_rfl)
theorem is239 : IsFn Tryz.prog 239 := IsFn.of Tryz.func239 (by kernel_rfl) (by kernel_rfl)
theorem is240 : IsFn Tryz.prog 240 := IsFn.of Tryz.func240 (by kernel_rfl) (by kernel_rfl)
theorem is241 : IsFn Tryz.prog 241 := IsFn.of Tryz.func241 (by kernel_rfl) (by kernel_rfl)
theorem is242 : IsFn Tryz.prog 242 := IsFn.of Tryz.func242 (by kernel_rfl) (by kernel_rfl)
theorem is243 : IsFn Tryz.prog 243 := IsFn.of Tryz.func243 (by kernel_rfl) (by kernel_rfl)
theorem is244 : IsFn Tryz.prog 244 := IsFn.of Tryz.func244 (by kernel_rfl) (by kernel_rfl)
theorem is245 : IsFn Tryz.prog 245 := IsFn.of Tryz.func245 (by kernel_rfl) (by kernel_rfl)
theorem is246 : IsFn Tryz.prog 246 := IsFn.of Tryz.func246 (by kernel_rfl) (by kernel_rfl)
theorem is247 : IsFn Tryz.prog 247 := IsFn.of Tryz.func247 (by kernel_rfl) (by kernel_rfl)
theorem is248 : IsFn Tryz.prog 248 := IsFn.of Tryz.func248 (by kernel_rfl) (by kernel_rfl)
theorem is249 : IsFn Tryz.prog 249 := IsFn.of Tryz.func249 (by kernel_rfl) (by kernel_rfl)
theorem is250 : IsFn Tryz.prog 250 := IsFn.of Tryz.func250 (by kernel_rfl) (by kernel_rfl)
theorem is251 : IsFn Tryz.prog 251 := IsFn.of Tryz.func251 (by kernel_rfl) (by kernel_rfl)
theorem is252 : IsFn Tryz.prog 252 := IsFn.of Tryz.func252 (by kernel_rfl) (by kernel_rfl)
theorem is253 : IsFn Tryz.prog 253 := IsFn.of Tryz.func253 (by kernel_rfl) (by kernel_rfl)
theorem is254 : IsFn Tryz.prog 254 := IsFn.of Tryz.func254 (by kernel_rfl) (by kernel_rfl)
theorem is255 : IsFn Tryz.prog 255 := IsFn.of Tryz.func255 (by kernel_rfl) (by kernel_rfl)
theorem is256 : IsFn Tryz.prog 256 := IsFn.of Tryz.func256 (by kernel_rfl) (by kernel_rfl)
theorem is257 : IsFn Tryz.prog 257 := IsFn.of Tryz.func257 (by kernel_rfl) (by kernel_rfl)
theorem is258 : IsFn Tryz.prog 258 := IsFn.of Tryz.func258 (by kernel_rfl) (by kernel_rfl)
theorem is259 : IsFn Tryz.prog 259 := IsFn.of Tryz.func259 (by kernel_rfl) (by kernel_rfl)
theorem is260 : IsFn Tryz.prog 260 := IsFn.of Tryz.func260 (by kernel_rfl) (by kernel_rfl)
theorem is261 : IsFn Tryz.prog 261 := IsFn.of Tryz.func261 (by kernel_rfl) (by kernel_rfl)
theorem is262 : IsFn Tryz.prog 262 := IsFn.of Tryz.func262 (by kernel_rfl) (by kernel_rfl)
theorem is263 : IsFn Tryz.prog 263 := IsFn.of Tryz.func263 (by kernel_rfl) (by kernel_rfl)
theorem is264 : IsFn Tryz.prog 264 := IsFn.of Tryz.func264 (by kernel_rfl) (by kernel_rfl)
theorem is265 : IsFn Tryz.prog 265 := IsFn.of Tryz.func265 (by kernel_rfl) (by kernel_rfl)
theorem is266 : IsFn Tryz.prog 266 := IsFn.of Tryz.func266 (by kernel_rfl) (by kernel_rfl)
theorem is267 : IsFn Tryz.prog 267 := IsFn.of Tryz.func267 (by kernel_rfl) (by kernel_rfl)
theorem is268 : IsFn Tryz.prog 268 := IsFn.of Tryz.func268 (by kernel_rfl) (by kernel_rfl)
theorem is269 : IsFn Tryz.prog 269 := IsFn.of Tryz.func269 (by kernel_rfl) (by kernel_rfl)
theorem is270 : IsFn Tryz.prog 270 := IsFn.of Tryz.func270 (by kernel_rfl) (by kernel_rfl)
theorem is271 : IsFn Tryz.prog 271 := IsFn.of Tryz.func271 (by kernel_rfl) (by kernel_rfl)
theorem is272 : IsFn Tryz.prog 272 := IsFn.of Tryz.func272 (by kernel_rfl) (by kernel_rfl)
theorem is273 : IsFn Tryz.prog 273 := IsFn.of Tryz.func273 (by kernel_rfl) (by kernel_rfl)
theorem is274 : IsFn Tryz.prog 274 := IsFn.of Tryz.func274 (by kernel_rfl) (by kernel_rfl)
theorem is275 : IsFn Tryz.prog 275 := IsFn.of Tryz.func275 (by kernel_rfl) (by kernel_rfl)
theorem is276 : IsFn Tryz.prog 276 := IsFn.of Tryz.func276 (by kernel_rfl) (by kernel_rfl)
theorem is277 : IsFn Tryz.prog 277 := IsFn.of Tryz.func277 (by kernel_rfl) (by kernel_rfl)
theorem is278 : IsFn Tryz.prog 278 := IsFn.of Tryz.func278 (by kernel_rfl) (by kernel_rfl)
theorem is279 : IsFn Tryz.prog 279 := IsFn.of Tryz.func279 (by kernel_rfl) (by kernel_rfl)
theorem is280 : IsFn Tryz.prog 280 := IsFn.of Tryz.func280 (by kernel_rfl) (by kernel_rfl)
theorem is281 : IsFn Tryz.prog 281 := IsFn.of Tryz.func281 (by kernel_rfl) (by kernel_rfl)
theorem is282 : IsFn Tryz.prog 282 := IsFn.of Tryz.func282 (by kernel_rfl) (by kernel_rfl)
theorem is283 : IsFn Tryz.prog 283 := IsFn.of Tryz.func283 (by kernel_rfl) (by kernel_rfl)
theorem is284 : IsFn Tryz.prog 284 := IsFn.of Tryz.func284 (by kernel_rfl) (by kernel_rfl)
theorem is285 : IsFn Tryz.prog 285 := IsFn.of Tryz.func285 (by kernel_rfl) (by kernel_rfl)
theorem is286 : IsFn Tryz.prog 286 := IsFn.of Tryz.func286 (by kernel_rfl) (by kernel_rfl)
theorem is289 : IsFn Tryz.prog 289 := IsFn.of Tryz.func289 (by kernel_rfl) (by kernel_rfl)
theorem is290 : IsFn Tryz.prog 290 := IsFn.of Tryz.func290 (by kernel_rfl) (by kernel_rfl)
theorem is291 : IsFn Tryz.prog 291 := IsFn.of Tryz.func291 (by kernel_rfl) (by kernel_rfl)
theorem is292 : IsFn Tryz.prog 292 := IsFn.of Tryz.func292 (by kernel_rfl) (by kernel_rfl)
theorem is293 : IsFn Tryz.prog 293 := IsFn.of Tryz.func293 (by kernel_rfl) (by kernel_rfl)
theorem is294 : IsFn Tryz.prog 294 := IsFn.of Tryz.func294 (by kernel_rfl) (by kernel_rfl)
theorem is295 : IsFn Tryz.prog 295 := IsFn.of Tryz.func295 (by kernel_rfl) (by kernel_rfl)
theorem is296 : IsFn Tryz.prog 296 := IsFn.of Tryz.func296 (by kernel_rfl) (by kernel_rfl)
theorem is297 : IsFn Tryz.prog 297 := IsFn.of Tryz.func297 (by kernel_rfl) (by kernel_rfl)
theorem is298 : IsFn Tryz.prog 298 := IsFn.of Tryz.func298 (by kernel_rfl) (by kernel_rfl)
theorem is300 : IsFn Tryz.prog 300 := IsFn.of Tryz.func300 (by kernel_rfl) (by kernel_rfl)
theorem is301 : IsFn Tryz.prog 301 := IsFn.of Tryz.func301 (by kernel_rfl) (by kernel_rfl)
theorem is302 : IsFn Tryz.prog 302 := IsFn.of Tryz.func302 (by kernel_rfl) (by kernel_rfl)
theorem is304 : IsFn Tryz.prog 304 := IsFn.of Tryz.func304 (by kernel_rfl) (by kernel_rfl)
theorem is305 : IsFn Tryz.prog 305 := IsFn.of Tryz.func305 (by kernel_rfl) (by kernel_rfl)
theorem is306 : IsFn Tryz.prog 306 := IsFn.of Tryz.func306 (by kernel_rfl) (by kernel_rfl)
theorem is307 : IsFn Tryz.prog 307 := IsFn.of Tryz.func307 (by kernel_rfl) (by kernel_rfl)
theorem is308 : IsFn Tryz.prog 308 := IsFn.of Tryz.func308 (by kernel_rfl) (by kernel_rfl)
theorem is309 : IsFn Tryz.prog 309 := IsFn.of Tryz.func309 (by kernel_rfl) (by kernel_rfl)
theorem is310 : IsFn Tryz.prog 310 := IsFn.of Tryz.func310 (by kernel_rfl) (by kernel_rfl)
theorem is311 : IsFn Tryz.prog 311 := IsFn.of Tryz.func311 (by kernel_rfl) (by kernel_rfl)
theorem is312 : IsFn Tryz.prog 312 := IsFn.of Tryz.func312 (by kernel_rfl) (by kernel_rfl)
theorem is313 : IsFn Tryz.prog 313 := IsFn.of Tryz.func313 (by kernel_rfl) (by kernel_rfl)
theorem is314 : IsFn Tryz.prog 314 := IsFn.of Tryz.func314 (by kernel_rfl) (by kernel_rfl)
theorem is315 : IsFn Tryz.prog 315 := IsFn.of Tryz.func315 (by kernel_rfl) (by kernel_rfl)
theorem is316 : IsFn Tryz.prog 316 := IsFn.of Tryz.func316 (by kernel_rfl) (by kernel_rfl)
theorem is317 : IsFn Tryz.prog 317 := IsFn.of Tryz.func317 (by kernel_rfl) (by kernel_rfl)
theorem is318 : IsFn Tryz.prog 318 := IsFn.of Tryz.func318 (by kernel_rfl) (by kernel_rfl)
theorem is319 : IsFn Tryz.prog 319 := IsFn.of Tryz.func319 (by kernel_rfl) (by kernel_rfl)
theorem is320 : IsFn Tryz.prog 320 := IsFn.of Tryz.func320 (by kernel_rfl) (by kernel_rfl)
theorem is321 : IsFn Tryz.prog 321 := IsFn.of Tryz.func321 (by kernel_rfl) (by kernel_rfl)
theorem is322 : IsFn Tryz.prog 322 := IsFn.of Tryz.func322 (by kernel_rfl) (by kernel_rfl)
theorem is323 : IsFn Tryz.prog 323 := IsFn.of Tryz.func323 (by kernel_rfl) (by kernel_rfl)
theorem is324 : IsFn Tryz.prog 324 := IsFn.of Tryz.func324 (by kernel_rfl) (by kernel_rfl)
theorem is325 : IsFn Tryz.prog 325 := IsFn.of Tryz.func325 (by kernel_rfl) (by kernel_rfl)
theorem is326 : IsFn Tryz.prog 326 := IsFn.of Tryz.func326 (by kernel_rfl) (by kernel_rfl)
theorem is348 : IsFn Tryz.prog 348 := IsFn.of Tryz.func348 (by kernel_rfl) (by kernel_rfl)
theorem is350 : IsFn Tryz.prog 350 := IsFn.of Tryz.func350 (by kernel_rfl) (by kernel_rfl)
theorem is351 : IsFn Tryz.prog 351 := IsFn.of Tryz.func351 (by kernel_rfl) (by kernel_rfl)
theorem is352 : IsFn Tryz.prog 352 := IsFn.of Tryz.func352 (by kernel_rfl) (by kernel_rfl)
theorem is353 : IsFn Tryz.prog 353 := IsFn.of Tryz.func353 (by kernel_rfl) (by kernel_rfl)
theorem is354 : IsFn Tryz.prog 354 := IsFn.of Tryz.func354 (by kernel_rfl) (by kernel_rfl)
theorem is355 : IsFn Tryz.prog 355 := IsFn.of Tryz.func355 (by kernel_rfl) (by kernel_rfl)
theorem is356 : IsFn Tryz.prog 356 := IsFn.of Tryz.func356 (by kernel_rfl) (by kernel_rfl)
theorem is357 : IsFn Tryz.prog 357 := IsFn.of Tryz.func357 (by kernel_rfl) (by kernel_rfl)
theorem is358 : IsFn Tryz.prog 358 := IsFn.of Tryz.func358 (by kernel_rfl) (by kernel_rfl)
theorem is359 : IsFn Tryz.prog 359 := IsFn.of Tryz.func359 (by kernel_rfl) (by kernel_rfl)
theorem is360 : IsFn Tryz.prog 360 := IsFn.of Tryz.func360 (by kernel_rfl) (by kernel_rfl)
theorem is361 : IsFn Tryz.prog 361 := IsFn.of Tryz.func361 (by kernel_rfl) (by kernel_rfl)
theorem is362 : IsFn Tryz.prog 362 := IsFn.of Tryz.func362 (by kernel_rfl) (by kernel_rfl)
theorem is363 : IsFn Tryz.prog 363 := IsFn.of Tryz.func363 (by kernel_rfl) (by kernel_rfl)
theorem is369 : IsFn Tryz.prog 369 := IsFn.of Tryz.func369 (by kernel_rfl) (by kernel_rfl)
theorem is371 : IsFn Tryz.prog 371 := IsFn.of Tryz.func371 (by kernel_rfl) (by kernel_rfl)
end Go.Sx

/-! More rules of the logic: results, cuts, comparisons, interfaces, append, strings. Generic: no program is named. -/
namespace Go.Sx
open Go Go.RowKit

section
variable {P : Program} {ops : Array Oper} {Q : Exit → Act → World → Prop} {N : Nat} {F : List (Nat × Value)} {E : Env} {R : Frag} {As As' : List Ent}
variable {d : Nat} {ty : TypeId} {pos : String} {af : Array Edge} {l : List Oper} {x y : Operand} {v u : Value} {T : TypeId}

/-! ### A cut between two pieces of code -/
def MidK (Mid : List (Nat × Value) → Frag → List Ent → Prop) (N : Nat) (E : Env) (a : Act) (w : World) : Prop :=
  ∃ F R As, Mid F R As ∧ Fr a N F ∧ St E w R As

theorem HC_seq_cut {c d : Code} (Mid : List (Nat × Value) → Frag → List Ent → Prop) (h1 : HC P (Exit.then (MidK Mid N E) Q) N F E R As c)
    (h2 : ∀ F R As, Mid F R As → HC P Q N F E R As d) : HC P Q N F E R As (.seq c d) := fun a w ha hs =>
  wp_seq (Code.wp_mono (fun e a w q => by
    cases e with
    | normal =>
      obtain ⟨F', R', As', hm, hf, hst⟩ := q
      exact h2 F' R' As' hm a w hf hst
    | _ => exact q) (h1 a w ha hs))
theorem HQ_cut {Mid : List (Nat × Value) → Frag → List Ent → Prop} (F₀ : List (Nat × Value)) (As₀ : List Ent) (hsub : Sub F F₀) (hperm : As.Perm As₀) (h : Mid F₀ R As₀) :
    HQ (Exit.then (MidK Mid N E) Q) N F E R As .normal := fun _ _ ha hs => ⟨F₀, R, As₀, h, ha.sub hsub, hs.perm hperm⟩

/-! ### Results -/
theorem HQ_ret_cell {fn : Func} {Rp : Ending → World → Prop} {e : Exit} {t n b off : Nat} {vs : List Value} (he : e = .ret ∨ e = .normal) (hres : fn.results = #[.cell t T])
    (ht : lk F t = some (.pointer (some ⟨b, off, none⟩))) (hT : Ty P T true n) (hr : Rd As R b off n vs)
    (h : ∀ w, St E w R As → Rp (.returned (.agg vs.toArray)) w) : HQ (bodyPost P fn Rp) N F E R As e :=
  HQ_ret he _ (fun a w ha hs => by
    simp [results, hres, ha.look t _ ht, asAddr, run_loadVar_agg hT hr hs]) h
theorem run_results_none {fn : Func} (hres : fn.results = #[]) (a : Act) (w : World) : (results fn a.tmps).run P w = .ok (.tuple #[]) w := by
  simp [results, hres]

inductive ResL (P : Program) (F : List (Nat × Value)) (R : Frag) (As : List Ent) : List ResultVar → List Value → Prop
  | nil : ResL P F R As [] []
  | tmp {t v rs vs} : lk F t = some v → ResL P F R As rs vs → ResL P F R As (.tmp t :: rs) (v :: vs)
  | cell {t b off n : Nat} {T : TypeId} {us vs : List Value} {rs} : lk F t = some (.pointer (some ⟨b, off, none⟩)) → Ty P T true n → Rd As R b off n us → ResL P F R As rs vs →
      ResL P F R As (.cell t T :: rs) (.agg us.toArray :: vs)

def rv (tmps : Array Value) : ResultVar → Sem Value
  | .tmp t => pure (tmps.getD t undef)
  | .cell a t => do loadVar t (← asAddr (tmps.getD a undef))

theorem results_rv (fn : Func) (tmps : Array Value) : results fn tmps = (do let vs ← fn.results.mapM (rv tmps); pure (if h : vs.size = 1 then vs[0] else .tuple vs)) := by
  unfold results
  congr 2

theorem ResL.run {rs vs} (h : ResL P F R As rs vs) {a : Act} {w : World} (ha : Fr a N F) (hs : St E w R As) : (rs.mapM (rv a.tmps)).run P w = .ok vs w := by
  induction h with
  | nil => rfl
  | tmp ht _ ih =>
    rw [List.mapM_cons, Sem.run_bind, rv]
    simp only [Sem.run_pure, Result.andThen_ok, Sem.run_bind, ih]
    simp [ha.look _ _ ht]
  | @cell t b off n T us vs rs ht hT hr _ ih =>
    rw [List.mapM_cons, Sem.run_bind, rv, Sem.run_bind]
    have : a.tmps.getD t undef = .pointer (some ⟨b, off, none⟩) := by
      rw [Array.getD_eq_getD_getElem?, ha.look _ _ ht]; rfl
    rw [this]
    simp only [asAddr, Sem.run_pure, Result.andThen_ok, Sem.run_bind, run_loadVar_agg hT hr hs, ih]

theorem run_results_list {fn : Func} {rs : List ResultVar} {vs : List Value} (hres : fn.results = rs.toArray) (h : ResL P F R As rs vs) (hl : vs.length ≠ 1) {a : Act} {w : World} (ha : Fr a N F) (hs : St E w R As) :
    (results fn a.tmps).run P w = .ok (.tuple vs.toArray) w := by
  have := h.run (a := a) (w := w) ha hs
  simp only [results_rv, hres, List.mapM_toArray, Sem.run_bind, Sem.run_map]
  rw [this]
  simp [hl]

/-! ### Comparisons -/
theorem HL_eql_bool {yT : TypeId} {a b : Bool} (hT : P.underlying T = some .bool) (hd : Nat.blt d N = true) (hx : ev F x = some (.bool a)) (hy : ev F y = some (.bool b))
    (k : HL P ops Q N ((d, .bool (a == b)) :: F) E R As l) : HL P ops Q N F E R As (⟨some d, .binOp .eql T x y yT, ty, pos, af, none⟩ :: l) :=
  HL_bin hd hx hy (fun w => by simp [eqGuard, run_eql_bool w T a b hT]) k
theorem HL_neq_bool {yT : TypeId} {a b : Bool} (hT : P.underlying T = some .bool) (hd : Nat.blt d N = true) (hx : ev F x = some (.bool a)) (hy : ev F y = some (.bool b))
    (k : HL P ops Q N ((d, .bool (!(a == b))) :: F) E R As l) : HL P ops Q N F E R As (⟨some d, .binOp .neq T x y yT, ty, pos, af, none⟩ :: l) :=
  HL_bin hd hx hy (fun w => by simp only [eqGuard]; simp [run_neq_bool w T a b hT]) k

theorem run_equalIn_ptr_none {t te : TypeId} (dp : Nat) (hT : P.underlying t = some (.pointer te)) (a : Addr) (w : World) : (Op.equalIn (dp + 1) t (.pointer (some a)) (.pointer none)).run P w = .ok false w := by
  simp [Op.equalIn, run_underlying' hT]
theorem run_equal_ptr_none {t te : TypeId} (hT : P.underlying t = some (.pointer te)) (a : Addr) (w : World) : (Op.equal t (.pointer (some a)) (.pointer none)).run P w = .ok false w :=
  run_equalIn_ptr_none 9999 hT a w
theorem run_eql_ptr_none {t te : TypeId} (hT : P.underlying t = some (.pointer te)) (a : Addr) (w : World) : (binOp .eql t (.pointer (some a)) (.pointer none)).run P w = .ok (.bool false) w := by
  simp only [binOp]; simp [run_equal_ptr_none hT]
theorem run_neq_ptr_none {t te : TypeId} (hT : P.underlying t = some (.pointer te)) (a : Addr) (w : World) : (binOp .neq t (.pointer (some a)) (.pointer none)).run P w = .ok (.bool true) w := by
  simp only [binOp]; simp [run_equal_ptr_none hT]
/-- A pointer, not nil, against nil. -/
theorem HL_eql_ptr {yT te : TypeId} {a : Addr} (hT : P.underlying T = some (.pointer te)) (hd : Nat.blt d N = true) (hx : ev F x = some (.pointer (some a))) (hy : ev F y = some (.pointer none))
    (k : HL P ops Q N ((d, .bool false) :: F) E R As l) : HL P ops Q N F E R As (⟨some d, .binOp .eql T x y yT, ty, pos, af, none⟩ :: l) :=
  HL_bin hd hx hy (fun w => by simp [eqGuard, run_eql_ptr_none hT]) k
theorem HL_neq_ptr {yT te : TypeId} {a : Addr} (hT : P.underlying T = some (.pointer te)) (hd : Nat.blt d N = true) (hx : ev F x = some (.pointer (some a))) (hy : ev F y = some (.pointer none))
    (k : HL P ops Q N ((d, .bool true) :: F) E R As l) : HL P ops Q N F E R As (⟨some d, .binOp .neq T x y yT, ty, pos, af, none⟩ :: l) :=
  HL_bin hd hx hy (fun w => by simp [eqGuard, run_neq_ptr_none hT]) k
end
end Go.Sx
namespace Go.Sx
open Go
/-- 'As' is what is left of 'L' when some of its first entries are let go. -/
inductive Tail : List Ent → List Ent → Prop
  | refl {l} : Tail l l
  | cons {e l As} : Tail l As → Tail (e :: l) As
theorem St.tail {E : Env} {w : World} {R : Frag} {L As : List Ent} (h : St E w R L) (ht : Tail L As) : St E w R As := by
  induction ht with
  | refl => exact h
  | cons _ ih => exact ih (h.drop .here)
/-- A call that computes: it leaves what is owned as it was, and what stays grows. -/
def Pure (P : Program) (f : FuncId) (vs : List Value) (R : Frag) (Res : Frag → Value → Prop) : Prop :=
  ∀ E As, Tri P f vs E R As fun v R' As' => As' = As ∧ Frag.le R R' ∧ Res R' v
theorem ret_pure {E : Env} {w : World} {R₀ R : Frag} {L As : List Ent} {v : Value} {Res : Frag → Value → Prop} (hs : St E w R L) (ht : Tail L As) (hle : Frag.le R₀ R) (hr : Res R v) :
    ∃ v' R' As', Ending.returned v = Ending.returned v' ∧ St E w R' As' ∧ As' = As ∧ Frag.le R₀ R' ∧ Res R' v' := ⟨v, R, As, rfl, hs.tail ht, rfl, hle, hr⟩
end Go.Sx

/-! A statement whose order Go leaves open: its operations but the last ones in any order, the last ones in theirs. Generic: no program is named. -/
namespace Go.Sx
open Go Go.RowKit

/-- The operations that come ahead of operation 'j', as far as 'n' edges lead. -/
def anc (ops : Array Oper) : Nat → Nat → List Nat
  | 0, _ => []
  | n + 1, j => match ops[j]? with
    | none => []
    | some o => (o.after.toList.filter (Region.binds .any)).flatMap fun e => e.on :: anc ops n e.on

/-- Operations that neither read nor write memory. -/
def softOp (o : Oper) : Bool := o.guard.isNone && match o.op with | .move _ => true | .assign _ => true | .extract _ _ => true | _ => false
/-- The first j operations are listed. -/
def upTo (n j : Nat) : Array Bool := ((List.range n).map fun i => Nat.blt i j).toArray
/-- Where the first j are listed, operation j may be taken. -/
def softAt (ops : Array Oper) (j : Nat) : Bool := match ops[j]? with
  | none => false
  | some o => softOp o && Region.noSelect ops && Region.free .any ops (upTo ops.size j) j && (Region.ready .any ops (upTo ops.size j)).contains j
/-- The first k operations but one. -/
def allBut (n k i : Nat) : Array Bool := ((List.range n).map fun m => Nat.blt m k && !Nat.beq m i).toArray
/-- Where the first k are listed but operation i, it may be taken. -/
def lateAt (ops : Array Oper) (k i : Nat) : Bool := match ops[i]? with
  | none => false
  | some o => softOp o && Region.noSelect ops && Region.free .any ops (allBut ops.size k i) i && (Region.ready .any ops (allBut ops.size k i)).contains i
/-- All from k on come behind operation i. -/
def aheadAll (ops : Array Oper) (k n i : Nat) : Bool := (List.range ops.size).all fun j => Nat.blt j k || (anc ops n j).contains i
/-- Edges lead back; from operation k on each one comes behind the first k (but for one that may be late), and is ahead of all behind it, or may be taken in its place. -/
def drawOk (ops : Array Oper) (pre : List Nat) (k n : Nat) : Bool :=
  (List.range ops.size).all (fun j => match ops[j]? with
    | none => true
    | some o => o.after.toList.all fun e => !Region.binds .any e || Nat.blt e.on j) &&
  (List.range k).all (fun i => pre.contains i || aheadAll ops k n i || (lateAt ops k i && (List.range k).all fun m => Nat.beq m i || pre.contains m || aheadAll ops k n m)) &&
  (List.range ops.size).all (fun j => Nat.blt j k || softAt ops j || (List.range ops.size).all fun i => Nat.ble i j || (anc ops n i).contains j)

/-- Each operation of the first part hands back a value in a temporary of its own. -/
def dsts : List Oper → Option (List Nat)
  | [] => some []
  | o :: t => match o.dst, dsts t with
    | some d, some ds => some (d :: ds)
    | _, _ => none

def dstOf (ops : Array Oper) (j : Nat) : Nat := ((ops[j]?).bind (·.dst)).getD 0

/-- Values of some operations, each with what is known of it. -/
def Dep (V : Nat → Frag → Value → Prop) (ops : Array Oper) (R : Frag) : List Nat → (List (Nat × Value) → Prop) → Prop
  | [], k => k []
  | i :: t, k => ∀ v, V i R v → Dep V ops R t fun L => k ((dstOf ops i, v) :: L)

/-- What an operation of the first part ends in. -/
def DQ (N : Nat) (E : Env) (R : Frag) (As : List Ent) (d : Nat) (V : Frag → Value → Prop) (G : List (Nat × Value)) : Exit → Act → World → Prop
  | .normal, a, w => ∃ v R', Frag.le R R' ∧ V R' v ∧ Fr a N ((d, v) :: G) ∧ St E w R' As
  | _, _, _ => False

section
variable {P : Program} {ops : Array Oper} {Q : Exit → Act → World → Prop} {N : Nat} {F : List (Nat × Value)} {E : Env} {R : Frag} {As As' : List Ent}

theorem HQ_dq {R₀ : Frag} {d : Nat} {V : Frag → Value → Prop} {G : List (Nat × Value)} {v : Value} (hle : Frag.le R₀ R) (hv : V R v) (hd : lk F d = some v) (hs : Sub F G) (ht : Tail As As') :
    HQ (DQ N E R₀ As' d V G) N F E R As .normal := fun a w ha hst =>
  ⟨v, R, hle, hv, ⟨ha.size, ha.defers, fun i u hi => by
    simp only [lk] at hi
    cases hb : Nat.beq d i with
    | true =>
      rw [hb] at hi
      simp only [cond_true, Option.some.injEq] at hi
      rw [← Nat.eq_of_beq_eq_true hb, ← hi]
      exact ha.look _ _ hd
    | false =>
      rw [hb] at hi
      exact ha.look _ _ (hs.look _ _ hi)⟩, hst.tail ht⟩

theorem lk_append (F G : List (Nat × Value)) (i : Nat) : lk (F ++ G) i = (lk F i).or (lk G i) := by
  induction F with
  | nil => simp [lk]
  | cons p t ih =>
    obtain ⟨k, v⟩ := p
    simp only [List.cons_append, lk]
    cases Nat.beq k i <;> simp [ih]

theorem Dep.use {V : Nat → Frag → Value → Prop} {R : Frag} {is : List Nat} {k : List (Nat × Value) → Prop} (h : Dep V ops R is k) (val : Nat → Value) (hv : ∀ i ∈ is, V i R (val i)) :
    k (is.map fun i => (dstOf ops i, val i)) := by
  induction is generalizing k with
  | nil => exact h
  | cons i t ih => exact ih (h (val i) (hv i (by simp))) (fun j hj => hv j (by simp [hj]))

theorem lk_map_get (is : List Nat) (val : Nat → Value) (hinj : ∀ i ∈ is, ∀ j ∈ is, dstOf ops i = dstOf ops j → i = j) (d : Nat) (v : Value)
    (h : lk (is.map fun i => (dstOf ops i, val i)) d = some v) : ∃ i ∈ is, dstOf ops i = d ∧ val i = v := by
  induction is with
  | nil => cases h
  | cons i t ih =>
    simp only [List.map_cons, lk] at h
    cases hb : Nat.beq (dstOf ops i) d with
    | true =>
      rw [hb] at h
      simp only [cond_true, Option.some.injEq] at h
      exact ⟨i, by simp, Nat.eq_of_beq_eq_true hb, h⟩
    | false =>
      rw [hb] at h
      obtain ⟨j, hj, h1, h2⟩ := ih (fun a ha b hb => hinj a (by simp [ha]) b (by simp [hb])) h
      exact ⟨j, by simp [hj], h1, h2⟩

theorem lk_map_mem (is : List Nat) (val : Nat → Value) (hinj : ∀ i ∈ is, ∀ j ∈ is, dstOf ops i = dstOf ops j → i = j) (i : Nat) (hi : i ∈ is) :
    lk (is.map fun i => (dstOf ops i, val i)) (dstOf ops i) = some (val i) := by
  induction is with
  | nil => cases hi
  | cons x t ih =>
    simp only [List.map_cons, lk]
    cases hb : Nat.beq (dstOf ops x) (dstOf ops i) with
    | true =>
      have : x = i := hinj x (by simp) i hi (Nat.eq_of_beq_eq_true hb)
      subst this
      rfl
    | false =>
      rcases List.mem_cons.1 hi with rfl | hit
      · simp at hb
      · exact ih (fun a ha b hb => hinj a (by simp [ha]) b (by simp [hb])) hit

theorem wp_mono2 {o : Oper} {a : Act} {w : World} {K K' : Act → World → Prop} {Q Q' : Exit → Act → World → Prop} (h : ∀ a w, K a w → K' a w) (hp : ∀ c a w, ¬ Q (.panic c) a w) (hg : ∀ a w, ¬ Q .outgrown a w)
    (hh : o.wp P a w K Q) : o.wp P a w K' Q' := by
  unfold Oper.wp at *
  generalize (execOp a.eval o).run P w = r at *
  cases r with
  | ok n w' =>
    cases n <;> simp only [Oper.upon] at hh ⊢ <;>
      first
        | exact h _ _ hh
        | exact Calls.mono hh (fun e w'' he => by
            cases e with
            | returned v => exact h _ _ he
            | panicked c => exact absurd he (hp _ _ _)
            | outgrown => obtain ⟨a₀, w₀, hq⟩ := he; exact absurd hq (hg _ _))
        | exact Rows.mono hh (fun _ _ he => h _ _ he)
  | halt x w' => cases x <;> simp only [Oper.upon] at hh ⊢ <;> exact absurd hh (hp _ _ _)

theorem ready_iff {listed : Array Bool} {j : Nat} : j ∈ Region.ready .any ops listed ↔
    listed.getD j true = false ∧ ∃ o, ops[j]? = some o ∧ ∀ e ∈ o.after, Region.binds .any e = true → listed.getD e.on false = true := mem_ready

/-- What is listed is closed towards the front. -/
def Closed (ops : Array Oper) (listed : Array Bool) : Prop :=
  listed.size = ops.size ∧ ∀ j, listed.getD j false = true → ∀ o, ops[j]? = some o → ∀ e ∈ o.after, Region.binds .any e = true → listed.getD e.on false = true

theorem Closed.anc {listed : Array Bool} (h : Closed ops listed) : ∀ (n j : Nat), (∀ o, ops[j]? = some o → ∀ e ∈ o.after, Region.binds .any e = true → listed.getD e.on false = true) →
    ∀ i ∈ anc ops n j, listed.getD i false = true := by
  intro n
  induction n with
  | zero => intro j _ i hi; cases hi
  | succ n ih =>
    intro j hj i hi
    unfold Sx.anc at hi
    split at hi
    · cases hi
    · rename_i o ho
      obtain ⟨e, he, hi⟩ := List.mem_flatMap.1 hi
      obtain ⟨he1, he2⟩ := List.mem_filter.1 he
      have h1 := hj o ho e (by simpa using he1) he2
      rcases List.mem_cons.1 hi with rfl | hi
      · exact h1
      · exact ih e.on (fun o' ho' e' he' hb => h.2 e.on h1 o' ho' e' he' hb) i hi

theorem Closed.set {listed : Array Bool} (h : Closed ops listed) {j : Nat} (hj : j ∈ Region.ready .any ops listed) : Closed ops (listed.setIfInBounds j true) := by
  obtain ⟨h0, o, ho, ha⟩ := ready_iff.1 hj
  refine ⟨by simp [h.1], fun i hi o' ho' e he hb => ?_⟩
  refine getD_set_true ?_
  by_cases hij : j = i
  · subst hij
    rw [ho] at ho'
    injection ho' with ho'
    subst ho'
    exact ha e he hb
  · rw [getD_set_ne false hij] at hi
    exact h.2 i hi o' ho' e he hb

theorem drawOk_spec {pre : List Nat} {k n : Nat} (h : drawOk ops pre k n = true) :
    (∀ j o, ops[j]? = some o → ∀ e ∈ o.after, Region.binds .any e = true → e.on < j) ∧
    (∀ i, i < k → i ∈ pre ∨ (∀ j, j < ops.size → k ≤ j → i ∈ anc ops n j) ∨ (lateAt ops k i = true ∧ ∀ m, m < k → m ≠ i → m ∈ pre ∨ ∀ j, j < ops.size → k ≤ j → m ∈ anc ops n j)) ∧
    (∀ j, j < ops.size → k ≤ j → softAt ops j = true ∨ ∀ i, i < ops.size → j < i → j ∈ anc ops n i) := by
  unfold drawOk at h
  rw [Bool.and_eq_true, Bool.and_eq_true] at h
  obtain ⟨⟨h1, h2⟩, h3⟩ := h
  rw [List.all_eq_true] at h1 h2 h3
  refine ⟨?_, ?_, ?_⟩
  · intro j o ho e he hb
    have hlt : j < ops.size := (Array.getElem?_eq_some_iff.1 ho).1
    have := h1 j (by simpa using hlt)
    rw [ho] at this
    simp only [List.all_eq_true] at this
    have := this e (by simpa using he)
    simpa [hb] using this
  · have hah : ∀ i, aheadAll ops k n i = true → ∀ j, j < ops.size → k ≤ j → i ∈ anc ops n j := by
      intro i h j hj hk
      unfold aheadAll at h
      rw [List.all_eq_true] at h
      have := h j (by simpa using hj)
      rw [Bool.or_eq_true] at this
      rcases this with h | h
      · simp at h; omega
      · simpa using h
    intro i hi
    have := h2 i (by simpa using hi)
    rw [Bool.or_eq_true, Bool.or_eq_true, Bool.and_eq_true] at this
    rcases this with (h | h) | ⟨h, hm⟩
    · exact .inl (by simpa using h)
    · exact .inr (.inl (hah i h))
    · refine .inr (.inr ⟨h, fun m hmk hmi => ?_⟩)
      rw [List.all_eq_true] at hm
      have := hm m (by simpa using hmk)
      rw [Bool.or_eq_true, Bool.or_eq_true] at this
      rcases this with (h | h) | h
      · exact absurd (Nat.eq_of_beq_eq_true h) hmi
      · exact .inl (by simpa using h)
      · exact .inr (hah m h)
  · intro j hj hk
    have := h3 j (by simpa using hj)
    rw [Bool.or_eq_true, Bool.or_eq_true] at this
    rcases this with (h | h) | h
    · simp at h; omega
    · exact .inl h
    · refine .inr fun i hi hij => ?_
      rw [List.all_eq_true] at h
      have := h i (by simpa using hi)
      rw [Bool.or_eq_true] at this
      rcases this with h | h
      · simp at h; omega
      · simpa using h

/-- Where not all is listed, something may come up. -/
theorem ready_ne_nil {listed : Array Bool} (h : Closed ops listed) (hb : ∀ j o, ops[j]? = some o → ∀ e ∈ o.after, Region.binds .any e = true → e.on < j)
    (hex : ∃ j, j < ops.size ∧ listed.getD j true = false) : Region.ready .any ops listed ≠ [] := by
  obtain ⟨j, hj, hl⟩ := hex
  induction j using Nat.strongRecOn with
  | _ j ih =>
    by_cases hall : ∀ e ∈ (ops[j]).after, Region.binds .any e = true → listed.getD e.on false = true
    · intro hnil
      have : j ∈ Region.ready .any ops listed := ready_iff.2 ⟨hl, ops[j], by simp [hj], hall⟩
      rw [hnil] at this
      cases this
    · simp only [Classical.not_forall] at hall
      obtain ⟨e, he, hbe, hn⟩ := hall
      have hlt := hb j ops[j] (by simp [hj]) e he hbe
      refine ih e.on hlt (by omega) ?_
      have hsz : e.on < listed.size := by rw [h.1]; omega
      rw [Array.getD_eq_getD_getElem?] at hn ⊢
      simp [hsz] at hn ⊢
      exact hn

theorem soft_yields {o : Oper} (hs : softOp o = true) {a : Act} {w : World} {rest : List Oper} (hw : wpList P ops Q (o :: rest) a w) :
    ∃ v, Yields P ops o v a ∧ wpList P ops Q rest (a.put o.dst v) w := by
  obtain ⟨dst, op, ty, pos, af, guard⟩ := o
  cases guard with
  | some g => simp [softOp] at hs
  | none =>
    unfold wpList at hw
    rw [if_pos (by simp [Region.wanted])] at hw
    cases op <;> simp [softOp] at hs
    case move x =>
      refine ⟨a.eval x, .inl ⟨by simp [Region.wanted], fun w => by simp [execOp]⟩, ?_⟩
      rcases hw with hw | ⟨h, _⟩
      · simpa [Oper.wp, execOp, Oper.upon] using hw
      · simp [Oper.asks, execOp, Sem.events_pure] at h
    case assign x =>
      refine ⟨a.eval x, .inl ⟨by simp [Region.wanted], fun w => by simp [execOp]⟩, ?_⟩
      rcases hw with hw | ⟨h, _⟩
      · simpa [Oper.wp, execOp, Oper.upon] using hw
      · simp [Oper.asks, execOp, Sem.events_pure] at h
    case extract x i =>
      cases hx : a.eval x with
      | tuple vs =>
        cases hv : vs[i]? with
        | some v =>
          refine ⟨v, .inl ⟨by simp [Region.wanted], fun w => by simp [execOp, Instr.extract, hx, hv]⟩, ?_⟩
          rcases hw with hw | ⟨h, _⟩
          · simpa [Oper.wp, execOp, Oper.upon, Instr.extract, hx, hv] using hw
          · simp [Oper.asks, execOp, Sem.events_pure, Instr.extract, hx, hv] at h
        | none =>
          exfalso
          rcases hw with hw | ⟨h, _⟩
          · simp [Oper.wp, execOp, Oper.upon, Instr.extract, hx, hv] at hw
          · simp [Oper.asks, execOp, Sem.events_pure, Instr.extract, hx, hv] at h
      | _ =>
        exfalso
        rcases hw with hw | ⟨h, _⟩
        · simp [Oper.wp, execOp, Oper.upon, Instr.extract, hx] at hw
        · simp [Oper.asks, execOp, Sem.events_pure, Instr.extract, hx] at h
theorem listed_upTo {listed : Array Bool} {j : Nat} (hsz : listed.size = ops.size) (hl : ∀ i, i < ops.size → (listed.getD i false = true ↔ i < j)) : listed = upTo ops.size j := by
  refine Array.ext (by simp [upTo, hsz]) (fun i h1 h2 => ?_)
  have h := hl i (by omega)
  rw [Array.getD_eq_getD_getElem?] at h
  simp [h1] at h
  have e : (upTo ops.size j)[i] = Nat.blt i j := by simp [upTo]
  rw [e, Bool.eq_iff_iff, h]
  simp
theorem listed_allBut {listed : Array Bool} {k f : Nat} (hsz : listed.size = ops.size) (hl : ∀ i, i < ops.size → (listed.getD i false = true ↔ (i < k ∧ i ≠ f))) : listed = allBut ops.size k f := by
  refine Array.ext (by simp [allBut, hsz]) (fun i h1 h2 => ?_)
  have h := hl i (by omega)
  rw [Array.getD_eq_getD_getElem?] at h
  simp [h1] at h
  have e : (allBut ops.size k f)[i] = (Nat.blt i k && !Nat.beq i f) := by simp [allBut]
  rw [e, Bool.eq_iff_iff, h, Bool.and_eq_true, Bool.not_eq_true', Nat.blt_eq]
  constructor
  · rintro ⟨a, b⟩
    refine ⟨a, ?_⟩
    cases hb : Nat.beq i f with
    | false => rfl
    | true => exact absurd (Nat.eq_of_beq_eq_true hb) b
  · rintro ⟨a, b⟩
    exact ⟨a, fun e => by subst e; simp at b⟩
/-- The last part, in its order. -/
theorem tail_any {pre : List Nat} {k n : Nat} (hok : drawOk ops pre k n = true) (hQ : ∀ c d v a w, Q (.panic c) (a.put d v) w → Q (.panic c) a w) : ∀ (fuel j : Nat) (listed : Array Bool) (a : Act) (w : World), k ≤ j → j ≤ ops.size → fuel = ops.size - j → Closed ops listed →
    (∀ i, i < ops.size → (listed.getD i false = true ↔ i < j)) → wpList P ops Q (ops.toList.drop j) a w → wpAny P .any ops Q fuel listed a w := by
  obtain ⟨hb, hanck, hanc⟩ := drawOk_spec hok
  intro fuel
  induction fuel with
  | zero =>
    intro j listed a w hk hj hf hc hl hw
    have hje : j = ops.size := by omega
    subst hje
    have hdrop : ops.toList.drop ops.size = [] := by simp
    rw [hdrop] at hw
    refine ⟨?_, hw⟩
    rw [List.eq_nil_iff_forall_not_mem]
    intro i hi
    obtain ⟨h0, o, ho, _⟩ := ready_iff.1 hi
    have hlt : i < ops.size := (Array.getElem?_eq_some_iff.1 ho).1
    have := (hl i hlt).2 hlt
    have hsz : i < listed.size := by rw [hc.1]; exact hlt
    rw [Array.getD_eq_getD_getElem?] at h0 this
    simp [hsz] at h0 this
    rw [h0] at this; cases this
  | succ fuel ih =>
    intro j listed a w hk hj hf hc hl hw
    have hlt : j < ops.size := by omega
    have hsz : j < listed.size := by rw [hc.1]; exact hlt
    have hun : listed.getD j true = false := by
      have : ¬ listed.getD j false = true := fun h => by have := (hl j hlt).1 h; omega
      rw [Array.getD_eq_getD_getElem?] at this ⊢
      simp [hsz] at this ⊢
      exact this
    rcases hanc j hlt hk with hsoft | hanc
    · -- taken in its place
      unfold softAt at hsoft
      cases hoj : ops[j]? with
      | none => rw [hoj] at hsoft; cases hsoft
      | some o =>
        rw [hoj] at hsoft
        simp only [Bool.and_eq_true] at hsoft
        obtain ⟨⟨⟨hs1, hs2⟩, hs3⟩, hs4⟩ := hsoft
        have hup := listed_upTo hc.1 hl
        rw [← hup] at hs3 hs4
        have hcons : ops.toList.drop j = o :: ops.toList.drop (j + 1) := by
          have hg : ops.toList[j]? = some o := by simpa using hoj
          obtain ⟨hlt', hge⟩ := List.getElem?_eq_some_iff.1 hg
          rw [List.drop_eq_getElem_cons hlt', hge]
        rw [hcons] at hw
        obtain ⟨v, hy, hw2⟩ := soft_yields hs1 hw
        refine wpAny_take (v := v) hoj hs2 hs3 hs4 (fun c a w => hQ c _ v a w) hy ?_
        have hready : j ∈ Region.ready .any ops listed := by simpa using hs4
        refine ih (j + 1) _ _ w (by omega) (by omega) (by omega) (hc.set hready) (fun m hm => ?_) hw2
        by_cases him : j = m
        · subst him
          constructor
          · intro _; omega
          · intro _
            rw [Array.getD_eq_getD_getElem?]
            simp [hsz]
        · rw [getD_set_ne false him, hl m hm]
          omega
    refine ⟨fun hnil => absurd hnil (ready_ne_nil hc hb ⟨j, hlt, hun⟩), fun i hi => ?_⟩
    obtain ⟨h0, o, ho, hafter⟩ := ready_iff.1 hi
    have hilt : i < ops.size := (Array.getElem?_eq_some_iff.1 ho).1
    have hij : i = j := by
      have hisz : i < listed.size := by rw [hc.1]; exact hilt
      have hni : ¬ i < j := fun h => by
        have := (hl i hilt).2 h
        rw [Array.getD_eq_getD_getElem?] at h0 this
        simp [hisz] at h0 this
        rw [h0] at this; cases this
      rcases Nat.lt_or_ge j i with h | h
      · have := hc.anc n i (fun o' ho' => by rw [ho] at ho'; injection ho' with ho'; subst ho'; exact hafter) j (hanc i hilt h)
        have := (hl j hlt).1 this
        omega
      · omega
    subst hij
    have hcons : ops.toList.drop i = o :: ops.toList.drop (i + 1) := by
      have hg : ops.toList[i]? = some o := by simpa using ho
      obtain ⟨hlt', hge⟩ := List.getElem?_eq_some_iff.1 hg
      rw [List.drop_eq_getElem_cons hlt', hge]
    rw [hcons] at hw
    have hnext : ∀ a w, wpList P ops Q (ops.toList.drop (i + 1)) a w → wpAny P .any ops Q fuel (listed.setIfInBounds i true) a w := fun a w h =>
      ih (i + 1) _ a w (by omega) (by omega) (by omega) (hc.set hi) (fun m hm => by
        by_cases him : i = m
        · subst him
          constructor
          · intro _; omega
          · intro _
            rw [Array.getD_eq_getD_getElem?]
            simp [hsz]
        · rw [getD_set_ne false him, hl m hm]
          omega) h
    unfold wpOp
    rw [ho]
    unfold wpList at hw
    simp only
    split at hw
    · rename_i hwant
      rw [if_pos hwant]
      exact hw.imp (Oper.wp_mono hnext) id
    · rename_i hwant
      rw [if_neg hwant]
      exact hnext _ _ hw

theorem dsts_spec {l : List Oper} {ds : List Nat} (h : dsts l = some ds) : ∀ (j : Nat) (o : Oper), l[j]? = some o → ∃ d, o.dst = some d ∧ ds[j]? = some d := by
  induction l generalizing ds with
  | nil => intro j o hj; simp at hj
  | cons p t ih =>
    unfold dsts at h
    split at h
    · rename_i d ds' h1 h2
      injection h with h
      subst h
      intro j o hj
      cases j with
      | zero =>
        simp at hj
        subst hj
        exact ⟨d, h1, rfl⟩
      | succ j => simpa using ih h2 j o (by simpa using hj)
    · cases h

/-- Operations that leave the world alone and whose values are known may be taken first. -/
inductive PreR (P : Program) (l : List Oper) (N : Nat) : List (Nat × Value) → List (Nat × Nat × Value) → Prop
  | nil (F : List (Nat × Value)) : PreR P l N F []
  | cons (F : List (Nat × Value)) (j d : Nat) (v : Value) (o : Oper) (rest : List (Nat × Nat × Value)) : l[j]? = some o → o.dst = some d → o.guard = none → Nat.blt d N = true → (∀ a w, Fr a N F → (execOp a.eval o).run P w = .ok (.value v) w) →
      PreR P l N ((d, v) :: F) rest → PreR P l N F ((j, d, v) :: rest)

theorem PreR.dst {l : List Oper} {F : List (Nat × Value)} {pre : List (Nat × Nat × Value)} (h : PreR P l N F pre) : ∀ p ∈ pre, dstOf l.toArray p.1 = p.2.1 := by
  induction h with
  | nil => intro p hp; cases hp
  | cons _ _ _ _ _ _ h1 h2 _ _ _ _ ih =>
    intro p hp
    rcases List.mem_cons.1 hp with rfl | hp
    · obtain ⟨hlt, hge⟩ := List.getElem?_eq_some_iff.1 h1
      simp [dstOf, hlt, hge, h2]
    · exact ih p hp

def preOk (ops : Array Oper) : Array Bool → List Nat → Bool
  | _, [] => true
  | listed, j :: t => Region.free .any ops listed j && (Region.ready .any ops listed).contains j && preOk ops (listed.setIfInBounds j true) t
def preListed : Array Bool → List Nat → Array Bool
  | listed, [] => listed
  | listed, j :: t => preListed (listed.setIfInBounds j true) t
def preF : List (Nat × Value) → List (Nat × Nat × Value) → List (Nat × Value)
  | F, [] => F
  | F, (_, d, v) :: t => preF ((d, v) :: F) t

theorem take_pre {l : List Oper} (hs : Region.noSelect l.toArray = true) (hQ : ∀ c d v a w, Q (.panic c) (a.put (some d) v) w → Q (.panic c) a w) {w : World} {fuel : Nat} : ∀ {pre : List (Nat × Nat × Value)} {F : List (Nat × Value)} {listed : Array Bool} {a : Act}, PreR P l N F pre →
    preOk l.toArray listed (pre.map (·.1)) = true → Closed l.toArray listed → Fr a N F → (∀ a', Fr a' N (preF F pre) → Closed l.toArray (preListed listed (pre.map (·.1))) → wpAny P .any l.toArray Q fuel (preListed listed (pre.map (·.1))) a' w) →
    wpAny P .any l.toArray Q (fuel + pre.length) listed a w := by
  intro pre
  induction pre with
  | nil => intro F listed a _ _ hc hF h; exact h a hF hc
  | cons p t ih =>
    intro F listed a hp hok hc hF h
    cases hp with
    | cons _ j d v o _ ho hd hg hN hrun hrest =>
      simp only [List.map_cons, preOk, Bool.and_eq_true] at hok
      have ho' : l.toArray[j]? = some o := by simpa using ho
      have hy : Yields P l.toArray o v a := .inl ⟨by simp [Region.wanted, hg], fun w => hrun a w hF⟩
      have hready : j ∈ Region.ready .any l.toArray listed := by simpa using hok.1.2
      have := wpAny_take (fuel := fuel + t.length) (w := w) ho' hs hok.1.1 hok.1.2 (fun c a w => by rw [hd]; exact hQ c d v a w) hy
        (by rw [hd]; exact ih hrest hok.2 (hc.set hready) (hF.put hN) h)
      simpa [Nat.add_assoc] using this

theorem lk_preF : ∀ (pre : List (Nat × Nat × Value)) (F : List (Nat × Value)), (pre.map (·.2.1)).Nodup → ∀ i v, lk ((pre.map fun p => (p.2.1, p.2.2)) ++ F) i = some v → lk (preF F pre) i = some v := by
  intro pre
  induction pre with
  | nil => intro F _ i v h; simpa [preF] using h
  | cons p t ih =>
    intro F hn i v h
    obtain ⟨j, d, u⟩ := p
    simp only [List.map_cons, List.nodup_cons] at hn
    simp only [preF]
    refine ih ((d, u) :: F) hn.2 i v ?_
    simp only [List.map_cons, List.cons_append, lk] at h
    rw [lk_append]
    cases hb : Nat.beq d i with
    | true =>
      rw [hb] at h
      simp only [cond_true, Option.some.injEq] at h
      have hi := Nat.eq_of_beq_eq_true hb
      subst hi
      have hnone : lk (t.map fun p => (p.2.1, p.2.2)) d = none := by
        have hn1 := hn.1
        clear ih h hn hb
        induction t with
        | nil => rfl
        | cons q qt ihq =>
          simp only [List.map_cons, List.mem_cons, not_or] at hn1
          simp only [List.map_cons, lk]
          have : Nat.beq q.2.1 d = false := by
            cases hb : Nat.beq q.2.1 d with
            | false => rfl
            | true => exact absurd (Nat.eq_of_beq_eq_true hb).symm hn1.1
          rw [this]
          exact ihq hn1.2
      rw [hnone]
      simp [lk, h]
    | false =>
      rw [hb] at h
      simp only [cond_false] at h
      rw [lk_append] at h
      cases hq : lk (t.map fun p => (p.2.1, p.2.2)) i with
      | some z => rw [hq] at h; simpa using h
      | none =>
        rw [hq] at h
        simp only [Option.none_or] at h ⊢
        simp [lk, hb, h]

/-- **A statement whose order is left open.** The first k operations in whatever order (each hands back a value, of which 'V' is told; memory that is owned stays as it is); the others in their order. -/
theorem HC_draw {id : Nat} {l : List Oper} (pre : List (Nat × Nat × Value)) (k n : Nat) (V : Nat → Frag → Value → Prop) (deps : Nat → List Nat) {ds : List Nat} (hm : P.follows .mixedOrders = true)
    (hok : drawOk l.toArray (pre.map (·.1)) k n = true) (hprek : ((pre.map (·.1)).all fun i => Nat.blt i k) = true) (hsel : pre ≠ [] → Region.noSelect l.toArray = true) (hQ : ∀ c d v a w, Q (.panic c) (a.put d v) w → Q (.panic c) a w) (hpreR : PreR P l N F pre) (hpreOk : preOk l.toArray (Array.replicate l.length false) (pre.map (·.1)) = true) (hprend : (pre.map (·.1)).Nodup) (hpreV : ∀ p ∈ pre, ∀ R, V p.1 R p.2.2) (hk : Nat.ble k l.length = true) (hds : dsts (l.take k) = some ds) (hnd : ds.Nodup) (hF : (ds.all fun d => (lk F d).isNone) = true)
    (hdep : (List.range k).all (fun j => (deps j).all fun i => Nat.blt i k && match l[j]? with | some o => o.after.any fun e => Region.binds .any e && Nat.beq e.on i | none => false) = true)
    (hmono : ∀ j R R' v, Frag.le R R' → V j R v → V j R' v)
    (hop : ∀ j o, l[j]? = some o → j < k → ∀ R1 G, Frag.le R R1 → Dep V l.toArray R1 (deps j) fun L => HL P l.toArray (DQ N E R1 As (dstOf l.toArray j) (V j) (L ++ F ++ G)) N (L ++ F ++ G) E R1 As [o])
    (htail : ∀ R1, Frag.le R R1 → Dep V l.toArray R1 (List.range k) fun L => HL P l.toArray Q N (L ++ F) E R1 As (l.drop k)) :
    HC P Q N F E R As (.region id l.toArray true) := by
  obtain ⟨hb, hanc, _⟩ := drawOk_spec hok
  have hk' : k ≤ l.length := by simpa using hk
  have hprek' : ∀ i ∈ pre.map (·.1), i < k := fun i hi => by simpa using List.all_eq_true.1 hprek i hi
  have hsz : l.toArray.size = l.length := by simp
  -- temporaries of the first part
  have hd1 : ∀ j, j < k → ∃ o d, l[j]? = some o ∧ o.dst = some d ∧ dstOf l.toArray j = d ∧ ds[j]? = some d := by
    intro j hj
    have hlt : j < l.length := by omega
    have ho : l[j]? = some l[j] := by simp [hlt]
    obtain ⟨d, hd, hdj⟩ := dsts_spec hds j l[j] (by rw [List.getElem?_take, if_pos hj]; exact ho)
    exact ⟨l[j], d, ho, hd, by simp [dstOf, hlt, hd], hdj⟩
  have hinj : ∀ i, i < k → ∀ j, j < k → dstOf l.toArray i = dstOf l.toArray j → i = j := by
    intro i hi j hj he
    obtain ⟨_, d, _, _, h1, h2⟩ := hd1 i hi
    obtain ⟨_, d', _, _, h1', h2'⟩ := hd1 j hj
    have hdd : d = d' := by rw [← h1, ← h1', he]
    subst hdd
    obtain ⟨hil, hi'⟩ := List.getElem?_eq_some_iff.1 h2
    obtain ⟨hjl, hj'⟩ := List.getElem?_eq_some_iff.1 h2'
    have hpw := List.pairwise_iff_getElem.1 hnd
    rcases Nat.lt_trichotomy i j with h | h | h
    · exact absurd (hi'.trans hj'.symm) (hpw i j hil hjl h)
    · exact h
    · exact absurd (hj'.trans hi'.symm) (hpw j i hjl hil h)
  have hnotF : ∀ j, j < k → lk F (dstOf l.toArray j) = none := by
    intro j hj
    obtain ⟨_, d, _, _, h1, h2⟩ := hd1 j hj
    rw [h1]
    have := List.all_eq_true.1 hF d (List.mem_of_getElem? h2)
    simpa using this
  -- the first part
  have main : ∀ (fuel : Nat) (listed : Array Bool) (a : Act) (w : World) (R1 : Frag) (S : List Nat) (val : Nat → Value), (∀ i ∈ pre.map (·.1), i ∈ S) → fuel + S.length = l.length → Closed l.toArray listed → S.Nodup →
      (∀ i ∈ S, i < k) → (∀ i, i < l.length → (listed.getD i false = true ↔ i ∈ S)) → Frag.le R R1 → (∀ i ∈ S, V i R1 (val i)) →
      Fr a N ((S.map fun i => (dstOf l.toArray i, val i)) ++ F) → St E w R1 As → wpAny P .any l.toArray Q fuel listed a w := by
    intro fuel
    induction fuel with
    | zero =>
      intro listed a w R1 S val hpS hfuel hc hSn hSk hl hle hV hFr hSt
      -- all is listed, so k is all there is
      have hall : ∀ i, i < k → i ∈ S := by
        intro i hi
        rcases Classical.em (i ∈ S) with h | h
        · exact h
        · exfalso
          have hsub : (i :: S).Nodup := List.nodup_cons.2 ⟨h, hSn⟩
          have hlen := List.Nodup.length_le_of_subset hsub (l₂ := List.range k) (fun x hx => by
            rcases List.mem_cons.1 hx with rfl | hx
            · simpa using hi
            · simpa using hSk x hx)
          simp at hlen
          omega
      have hkl : k = l.length := by
        have hlen := List.Nodup.length_le_of_subset hSn (l₂ := List.range k) (fun x hx => by simpa using hSk x hx)
        simp at hlen
        omega
      have ht := (htail R1 hle).use val (fun i hi => hV i (hall i (by simpa using hi)))
      refine tail_any hok hQ 0 k listed a w (Nat.le_refl _) (by simp; omega) (by simp; omega) hc (fun i hi => ?_) (by
        have := ht a w ?_ hSt
        · simpa using this
        · refine ⟨hFr.size, hFr.defers, fun d v h => hFr.look d v ?_⟩
          rw [lk_append] at h ⊢
          cases hq : lk ((List.range k).map fun i => (dstOf l.toArray i, val i)) d with
          | some u =>
            rw [hq] at h
            simp only [Option.some_or, Option.some.injEq] at h
            obtain ⟨i, hi, h1, h2⟩ := lk_map_get _ val (fun a ha b hb => hinj a (by simpa using ha) b (by simpa using hb)) d u hq
            subst h
            have hfind : lk (S.map fun i => (dstOf l.toArray i, val i)) d = some u := by
              rw [← h1, ← h2]
              exact lk_map_mem S val (fun a ha b hb => hinj a (hSk a ha) b (hSk b hb)) i (hall i (by simpa using hi))
            rw [hfind]; rfl
          | none =>
            rw [hq] at h
            simp only [Option.none_or] at h
            cases hq2 : lk (S.map fun i => (dstOf l.toArray i, val i)) d with
            | none => simpa using h
            | some u =>
              obtain ⟨i, hi, h1, h2⟩ := lk_map_get _ val (fun a ha b hb => hinj a (hSk a ha) b (hSk b hb)) d u hq2
              rw [← h1, hnotF i (hSk i hi)] at h
              cases h)
      rw [hl i (by simpa using hi)]
      exact ⟨fun h => hSk i h, fun h => hall i h⟩
    | succ fuel ih =>
      intro listed a w R1 S val hpS hfuel hc hSn hSk hl hle hV hFr hSt
      by_cases hfull : ∀ i, i < k → i ∈ S
      · -- the first part is done
        have hSlen : S.length = k := by
          have h1 := List.Nodup.length_le_of_subset hSn (l₂ := List.range k) (fun x hx => by simpa using hSk x hx)
          have h2 := List.Nodup.length_le_of_subset (List.nodup_range (n := k)) (l₂ := S) (fun x hx => hfull x (by simpa using hx))
          simp at h1 h2
          omega
        have ht := (htail R1 hle).use val (fun i hi => hV i (hfull i (by simpa using hi)))
        refine tail_any hok hQ (fuel + 1) k listed a w (Nat.le_refl _) (by simp; omega) (by simp; omega) hc (fun i hi => ?_) (by
          have := ht a w ?_ hSt
          · simpa using this
          · refine ⟨hFr.size, hFr.defers, fun d v h => hFr.look d v ?_⟩
            rw [lk_append] at h ⊢
            cases hq : lk ((List.range k).map fun i => (dstOf l.toArray i, val i)) d with
            | some u =>
              rw [hq] at h
              simp only [Option.some_or, Option.some.injEq] at h
              obtain ⟨i, hi, h1, h2⟩ := lk_map_get _ val (fun a ha b hb => hinj a (by simpa using ha) b (by simpa using hb)) d u hq
              subst h
              have hfind : lk (S.map fun i => (dstOf l.toArray i, val i)) d = some u := by
                rw [← h1, ← h2]
                exact lk_map_mem S val (fun a ha b hb => hinj a (hSk a ha) b (hSk b hb)) i (hfull i (by simpa using hi))
              rw [hfind]; rfl
            | none =>
              rw [hq] at h
              simp only [Option.none_or] at h
              cases hq2 : lk (S.map fun i => (dstOf l.toArray i, val i)) d with
              | none => simpa using h
              | some u =>
                obtain ⟨i, hi, h1, h2⟩ := lk_map_get _ val (fun a ha b hb => hinj a (hSk a ha) b (hSk b hb)) d u hq2
                rw [← h1, hnotF i (hSk i hi)] at h
                cases h)
        rw [hl i (by simpa using hi)]
        exact ⟨fun h => hSk i h, fun h => hfull i h⟩
      · simp only [Classical.not_forall] at hfull
        obtain ⟨i0, hi0, hni0⟩ := hfull
        have hun : listed.getD i0 true = false := by
          have h1 : ¬ listed.getD i0 false = true := fun h => hni0 ((hl i0 (by omega)).1 h)
          have hs : i0 < listed.size := by rw [hc.1]; simp; omega
          rw [Array.getD_eq_getD_getElem?] at h1 ⊢
          simp [hs] at h1 ⊢
          exact h1
        have step : ∀ j, j ∈ Region.ready .any l.toArray listed → j < k → ∃ o G, l.toArray[j]? = some o ∧ wpList P l.toArray (DQ N E R1 As (dstOf l.toArray j) (V j) G) [o] a w ∧
            ∀ a' w', DQ N E R1 As (dstOf l.toArray j) (V j) G .normal a' w' → wpAny P .any l.toArray Q fuel (listed.setIfInBounds j true) a' w' := by
         intro j hj hjk
         obtain ⟨h0, o, ho, hafter⟩ := ready_iff.1 hj
         have hjlt : j < l.length := by simpa using (Array.getElem?_eq_some_iff.1 ho).1
         have hjS : j ∉ S := fun h => by
           have h1 := (hl j hjlt).2 h
           have hs : j < listed.size := by rw [hc.1]; simpa using hjlt
           rw [Array.getD_eq_getD_getElem?] at h0 h1
           simp [hs] at h0 h1
           rw [h0] at h1; cases h1
         have ho' : l[j]? = some o := by simpa using ho
         -- its forerunners have come up
         have hdepS : ∀ i ∈ deps j, i ∈ S := by
           intro i hi
           have h1 := List.all_eq_true.1 hdep j (by simpa using hjk)
           have h2 := List.all_eq_true.1 h1 i hi
           rw [ho', Bool.and_eq_true] at h2
           obtain ⟨hik, h3⟩ := h2
           obtain ⟨e, he, h4⟩ := Array.any_eq_true'.1 h3
           rw [Bool.and_eq_true] at h4
           have h5 := hafter e he h4.1
           rw [Nat.eq_of_beq_eq_true h4.2] at h5
           have hik' : i < k := by simpa using hik
           exact (hl i (by omega)).1 h5
         have hrun := (hop j o ho' hjk R1 ((S.map fun i => (dstOf l.toArray i, val i)) ++ F) hle).use val (fun i hi => hV i (hdepS i hi))
         have hFr' : Fr a N (((deps j).map fun i => (dstOf l.toArray i, val i)) ++ F ++ ((S.map fun i => (dstOf l.toArray i, val i)) ++ F)) := by
           refine ⟨hFr.size, hFr.defers, fun d v h => ?_⟩
           rw [lk_append, lk_append] at h
           have hS : ∀ i ∈ S, a.tmps[dstOf l.toArray i]? = some (val i) := by
             intro i hi
             refine hFr.look _ _ ?_
             rw [lk_append]
             rw [lk_map_mem S val (fun a ha b hb => hinj a (hSk a ha) b (hSk b hb)) i hi]
             rfl
           cases hq : lk ((deps j).map fun i => (dstOf l.toArray i, val i)) d with
           | some u =>
             rw [hq] at h
             simp only [Option.some_or, Option.some.injEq] at h
             subst h
             obtain ⟨i, hi, h1, h2⟩ := lk_map_get (deps j) val (fun a ha b hb => hinj a (hSk a (hdepS a ha)) b (hSk b (hdepS b hb))) d u hq
             rw [← h1, ← h2]
             exact hS i (hdepS i hi)
           | none =>
             rw [hq] at h
             simp only [Option.none_or] at h
             cases hq2 : lk F d with
             | some u =>
               rw [hq2] at h
               simp only [Option.some_or, Option.some.injEq] at h
               subst h
               refine hFr.look d u ?_
               rw [lk_append]
               cases hq3 : lk (S.map fun i => (dstOf l.toArray i, val i)) d with
               | some u' =>
                 obtain ⟨i, hi, h1, _⟩ := lk_map_get _ val (fun a ha b hb => hinj a (hSk a ha) b (hSk b hb)) _ u' hq3
                 rw [← h1, hnotF i (hSk i hi)] at hq2
                 cases hq2
               | none => simpa using hq2
             | none =>
               rw [hq2] at h
               simp only [Option.none_or] at h
               exact hFr.look d v h
         have hw := hrun a w hFr' hSt
         -- and so on
         have hnext : ∀ a' w', DQ N E R1 As (dstOf l.toArray j) (V j) (((deps j).map fun i => (dstOf l.toArray i, val i)) ++ F ++ ((S.map fun i => (dstOf l.toArray i, val i)) ++ F)) .normal a' w' →
             wpAny P .any l.toArray Q fuel (listed.setIfInBounds j true) a' w' := by
           intro a' w' ⟨v, R2, hle2, hv, hFr2, hSt2⟩
           let val' : Nat → Value := fun i => if i = j then v else val i
           have hval : ∀ i ∈ S, val' i = val i := fun i hi => if_neg (fun (e : i = j) => hjS (e ▸ hi))
           refine ih (listed.setIfInBounds j true) a' w' R2 (j :: S) val' (fun i hi => List.mem_cons_of_mem _ (hpS i hi)) (by simp; omega) (hc.set hj) (List.nodup_cons.2 ⟨hjS, hSn⟩) (fun i hi => ?_) (fun i hi => ?_) (Frag.le_trans hle hle2) (fun i hi => ?_) ?_ hSt2
           · rcases List.mem_cons.1 hi with rfl | hi
             · exact hjk
             · exact hSk i hi
           · by_cases hij : j = i
             · subst hij
               have hs : j < listed.size := by rw [hc.1]; simpa using hjlt
               rw [Array.getD_eq_getD_getElem?]
               simp [hs]
             · rw [getD_set_ne false hij, hl i hi]
               simp [Ne.symm hij]
           · rcases List.mem_cons.1 hi with rfl | hi
             · simpa [val'] using hv
             · rw [hval i hi]; exact hmono i _ _ _ hle2 (hV i hi)
           · refine ⟨hFr2.size, hFr2.defers, fun d u h => hFr2.look d u ?_⟩
             simp only [List.map_cons, List.cons_append, lk] at h ⊢
             cases hbj : Nat.beq (dstOf l.toArray j) d with
             | true =>
               rw [hbj] at h
               simpa [val'] using h
             | false =>
               rw [hbj] at h
               simp only [cond_false] at h ⊢
               have hmap : (S.map fun i => (dstOf l.toArray i, val' i)) = S.map fun i => (dstOf l.toArray i, val i) := List.map_congr_left fun i hi => by rw [hval i hi]
               rw [hmap] at h
               rw [lk_append, lk_append]
               cases hq : lk ((deps j).map fun i => (dstOf l.toArray i, val i)) d with
               | some u' =>
                 obtain ⟨i, hi, h1, h2⟩ := lk_map_get (deps j) val (fun a ha b hb => hinj a (hSk a (hdepS a ha)) b (hSk b (hdepS b hb))) d u' hq
                 have h3 := hFr'.look d u' (by rw [lk_append, lk_append, hq]; rfl)
                 have h4 := hFr.look d u h
                 rw [h3] at h4
                 simp at h4
                 simp [h4]
               | none =>
                 cases hq2 : lk F d with
                 | some u' =>
                   have h3 := hFr'.look d u' (by rw [lk_append, lk_append, hq, hq2]; rfl)
                   have h4 := hFr.look d u h
                   rw [h3] at h4
                   simp at h4
                   simp [h4]
                 | none => simpa using h
         exact ⟨o, _, ho, hw, hnext⟩
        by_cases hA : ∀ j ∈ Region.ready .any l.toArray listed, j < k
        · refine ⟨fun hnil => absurd hnil (ready_ne_nil hc hb ⟨i0, by simp; omega, hun⟩), fun j hj => ?_⟩
          obtain ⟨o, G, ho, hw, hnext⟩ := step j hj (hA j hj)
          unfold wpOp
          rw [ho]
          unfold wpList at hw
          simp only
          split at hw
          · rename_i hwant
            rw [if_pos hwant]
            rcases hw with hw | ⟨_, a₀, w₀, hq⟩
            · left
              exact wp_mono2 (fun a w h => hnext a w h) (fun _ _ _ h => h) (fun _ _ h => h) hw
            · exact hq.elim
          · rename_i hwant
            rw [if_neg hwant]
            exact hnext _ _ hw
        · -- one is late: it is taken at once
          simp only [Classical.not_forall] at hA
          obtain ⟨j, hj, hjk⟩ := hA
          obtain ⟨_, oj, hoj, hafter⟩ := ready_iff.1 hj
          have hjlt : j < l.length := by simpa using (Array.getElem?_eq_some_iff.1 hoj).1
          have hancS : ∀ m, m < k → m ∈ anc l.toArray n j → m ∈ S := fun m hm h => (hl m (by omega)).1 (hc.anc n j (fun o' ho' => by rw [hoj] at ho'; injection ho' with ho'; subst ho'; exact hafter) m h)
          rcases hanc i0 hi0 with hp | hp | ⟨hlate, hp⟩
          · exact absurd (hpS i0 hp) hni0
          · exact absurd (hancS i0 hi0 (hp j (by simpa using hjlt) (by omega))) hni0
          · have hothers : ∀ m, m < k → m ≠ i0 → m ∈ S := fun m hm hne => by
              rcases hp m hm hne with h | h
              · exact hpS m h
              · exact hancS m hm (h j (by simpa using hjlt) (by omega))
            have hup := listed_allBut (ops := l.toArray) (listed := listed) (k := k) (f := i0) hc.1 (fun i hi => by
              rw [hl i (by simpa using hi)]
              exact ⟨fun h => ⟨hSk i h, fun e => hni0 (e ▸ h)⟩, fun h => hothers i h.1 h.2⟩)
            unfold lateAt at hlate
            cases ho0 : l.toArray[i0]? with
            | none => rw [ho0] at hlate; cases hlate
            | some o =>
              rw [ho0] at hlate
              simp only [Bool.and_eq_true] at hlate
              obtain ⟨⟨⟨hs1, hs2⟩, hs3⟩, hs4⟩ := hlate
              rw [← hup] at hs3 hs4
              have hready : i0 ∈ Region.ready .any l.toArray listed := by simpa using hs4
              obtain ⟨o', G, ho', hw, hnext⟩ := step i0 hready hi0
              rw [ho0] at ho'
              injection ho' with ho'
              subst ho'
              obtain ⟨v, hy, hw2⟩ := soft_yields hs1 hw
              exact wpAny_take (v := v) ho0 hs2 hs3 hs4 (fun c a w => hQ c _ v a w) hy (hnext _ _ hw2)
  intro a w ha hs
  refine wp_region_any hm ?_
  have hrep : Closed l.toArray (Array.replicate l.length false) := ⟨by simp, fun j hj => by
    exfalso
    rw [Array.getD_eq_getD_getElem?] at hj
    by_cases hlt : j < l.length
    · simp [hlt] at hj
    · simp [hlt] at hj⟩
  have hlistS : ∀ (q : List Nat) (listed : Array Bool), listed.size = l.length → (∀ i ∈ q, i < l.length) → ∀ i, i < l.length → ((preListed listed q).getD i false = true ↔ i ∈ q ∨ listed.getD i false = true) := by
    intro q
    induction q with
    | nil => intro listed _ _ i _; simp [preListed]
    | cons j t ih =>
      intro listed hsz hq i hi
      simp only [preListed]
      rw [ih _ (by simp [hsz]) (fun i hi => hq i (by simp [hi])) i hi]
      by_cases hij : j = i
      · subst hij
        have : (listed.setIfInBounds j true).getD j false = true := by
          rw [Array.getD_eq_getD_getElem?]; simp [hsz, hi]
        simp [this]
      · rw [getD_set_ne false hij]
        simp [Ne.symm hij]
  have hpk : ∀ i ∈ pre.map (·.1), i < l.length := fun i hi => by have := hprek' i hi; omega
  have hplen : pre.length ≤ l.length := by
    have := List.Nodup.length_le_of_subset hprend (l₂ := List.range l.length) (fun x hx => by simpa using hpk x hx)
    simpa using this
  have hfin : ∀ a', Fr a' N (preF F pre) → Closed l.toArray (preListed (Array.replicate l.length false) (pre.map (·.1))) → wpAny P .any l.toArray Q (l.length - pre.length) (preListed (Array.replicate l.length false) (pre.map (·.1))) a' { w with drawn := w.drawn + 1 } := by
    intro a' hF' hc'
    let val : Nat → Value := fun i => (((pre.find? fun p => Nat.beq p.1 i).map (·.2.2)).getD undef)
    have hval : ∀ p ∈ pre, val p.1 = p.2.2 := by
      intro p hp
      have hnd := hprend
      show (((pre.find? fun q => Nat.beq q.1 p.1).map (·.2.2)).getD undef) = _
      clear hpreV hpreOk hpreR hprek hprek' hok hQ hsel main hpk hplen hF' hc' hlistS hanc
      induction pre with
      | nil => cases hp
      | cons q t ih =>
        simp only [List.map_cons, List.nodup_cons] at hnd
        rcases List.mem_cons.1 hp with rfl | hp
        · simp
        · have hne : Nat.beq q.1 p.1 = false := by
            cases hb : Nat.beq q.1 p.1 with
            | false => rfl
            | true => exact absurd (List.mem_map.2 ⟨p, hp, (Nat.eq_of_beq_eq_true hb).symm⟩) hnd.1
          rw [List.find?_cons, hne]
          exact ih hnd.2 hp hnd.2
    refine main (l.length - pre.length) _ a' _ R (pre.map (·.1)) val (fun i hi => hi) (by simp; omega) hc' hprend hprek' (fun i hi => ?_) (Frag.le_refl _) (fun i hi => ?_) ?_ (hs.drew _)
    · rw [hlistS _ _ (by simp) hpk i hi]
      rw [Array.getD_eq_getD_getElem?]
      simp [hi]
    · obtain ⟨p, hp, rfl⟩ := List.mem_map.1 hi
      rw [hval p hp]
      exact hpreV p hp R
    · refine ⟨hF'.size, hF'.defers, fun d v h => hF'.look d v ?_⟩
      have hdd := hpreR.dst
      have hnd2 : (pre.map (·.2.1)).Nodup := by
        have hi1 : ∀ p ∈ pre, ∀ q ∈ pre, p.2.1 = q.2.1 → p.1 = q.1 := fun p hp q hq e =>
          hinj p.1 (hprek' _ (List.mem_map.2 ⟨p, hp, rfl⟩)) q.1 (hprek' _ (List.mem_map.2 ⟨q, hq, rfl⟩)) (by rw [hdd p hp, hdd q hq, e])
        have hpw : pre.Pairwise fun p q => p.1 ≠ q.1 := List.pairwise_map.1 hprend
        refine List.pairwise_map.2 (hpw.imp_of_mem fun {p q} hp hq hne e => hne (hi1 p hp q hq e))
      refine lk_preF pre F hnd2 d v ?_
      have hmap : ((pre.map (·.1)).map fun i => (dstOf l.toArray i, val i)) = pre.map fun p => (p.2.1, p.2.2) := by
        rw [List.map_map]
        refine List.map_congr_left fun p hp => ?_
        simp only [Function.comp]
        rw [hdd p hp, hval p hp]
      rw [← hmap]; exact h
  have hsum : l.toArray.size = (l.length - pre.length) + pre.length := by simp; omega
  rw [show (Array.replicate l.toArray.size false) = Array.replicate l.length false by simp, hsum]
  by_cases hp0 : pre = []
  · subst hp0
    exact hfin a ha hrep
  · exact take_pre (hsel hp0) (fun c d v a w => hQ c (some d) v a w) hpreR hpreOk hrep ha hfin
end
end Go.Sx

/-! More rules of the logic: what is built, what is appended to, conversions, assertions. Generic: no program is named. -/
namespace Go.Sx
open Go Go.RowKit

/-! ## Aggregates that are built -/

/-- 'fill' over lists. -/
def bld (pl : List (Nat × Nat)) (zs : List Value) : List (Nat × List Value) → Option (List Value)
  | [] => some zs
  | (i, vs) :: t => match pl[i]? with
    | none => none
    | some (off, n) => bif Nat.beq vs.length n && Nat.ble (off + vs.length) zs.length then bld pl (spl zs off vs) t else none

theorem foldl_spl (vs : List Value) : ∀ (zs : List Value) (off k : Nat), off + k + vs.length ≤ zs.length →
    ((vs.zipIdx k).foldl (fun (cs : Array Value) (c, j) => cs.setIfInBounds (off + j) c) ⟨zs⟩) = ⟨spl zs (off + k) vs⟩ := by
  induction vs with
  | nil => intro zs off k _; simp [spl_nil]
  | cons v t ih =>
    intro zs off k h
    simp only [List.length_cons] at h
    simp only [List.zipIdx_cons, List.foldl_cons]
    have e1 : (⟨zs⟩ : Array Value).setIfInBounds (off + k) v = ⟨zs.set (off + k) v⟩ := by
      apply Array.ext'
      simp
    rw [e1, ih _ _ _ (by simp; omega)]
    have e2 : off + (k + 1) = off + k + 1 := by omega
    rw [e2, spl_step]

theorem fill_bld {pl : List (Nat × Nat)} {place : Nat → Option (Nat × Nat)} : ∀ (ps : List (Nat × Value)) (qs : List (Nat × List Value)) (zs cs : List Value), (∀ p ∈ ps, place p.1 = pl[p.1]?) →
    ps.map (fun p => (p.1, p.2.cells)) = qs.map (fun q => (q.1, q.2.toArray)) → bld pl zs qs = some cs → Instr.fill place ⟨zs⟩ ps = some ⟨cs⟩ := by
  intro ps
  induction ps with
  | nil =>
    intro qs zs cs hpl h hb
    cases qs with
    | nil => simp [bld] at hb; subst hb; rfl
    | cons q t => simp at h
  | cons p t ih =>
    intro qs zs cs hpl h hb
    cases qs with
    | nil => simp at h
    | cons q qt =>
      obtain ⟨i, v⟩ := p
      obtain ⟨i', vs⟩ := q
      simp only [List.map_cons, List.cons.injEq, Prod.mk.injEq] at h
      obtain ⟨⟨rfl, hv⟩, ht⟩ := h
      unfold bld at hb
      unfold Instr.fill
      rw [show place i = pl[i]? from hpl (i, v) (by simp)]
      cases hq : pl[i]? with
      | none => rw [hq] at hb; cases hb
      | some on =>
        obtain ⟨off, n⟩ := on
        rw [hq] at hb
        simp only at hb ⊢
        cases hc : (Nat.beq vs.length n && Nat.ble (off + vs.length) zs.length) with
        | false => rw [hc] at hb; cases hb
        | true =>
          rw [hc] at hb
          simp only [cond_true] at hb
          rw [Bool.and_eq_true] at hc
          have h1 := Nat.eq_of_beq_eq_true hc.1
          have h2 : off + vs.length ≤ zs.length := by simpa using hc.2
          rw [hv]
          have e : vs.toArray.zipIdx.foldl (fun (cs : Array Value) (c, j) => cs.setIfInBounds (off + j) c) ⟨zs⟩ = ⟨spl zs off vs⟩ := by
            have := foldl_spl vs zs off 0 (by omega)
            simp only [Nat.add_zero] at this
            rw [← this]
            simp
          rw [if_neg (by simp [h1]; omega)]
          rw [e]
          exact ih qt _ _ (fun p hp => hpl p (by simp [hp])) ht hb

/-- Where the fields of a struct lie. -/
def Plc (P : Program) (T : TypeId) (pl : List (Nat × Nat)) : Prop :=
  ∃ fs, P.underlying T = some (.struct fs) ∧ (fs.toList.map fun f => ((P.info? f.type).map fun i => (f.offset, i.size))) = pl.map some

section
variable {P : Program} {ops : Array Oper} {Q : Exit → Act → World → Prop} {N : Nat} {F : List (Nat × Value)} {E : Env} {R : Frag} {As As' : List Ent}
variable {d : Nat} {ty : TypeId} {pos : String} {af : Array Edge} {l : List Oper} {x y : Operand} {v u : Value} {T : TypeId}

theorem Plc.run {pl : List (Nat × Nat)} {fs : Array Field} (h : (fs.toList.map fun f => ((P.info? f.type).map fun i => (f.offset, i.size))) = pl.map some) (w : World) :
    ((fs.mapM fun f => do pure (f.offset, ← sizeOf f.type) : Sem (Array (Nat × Nat)))).run P w = .ok pl.toArray w := by
  have main : ∀ (l : List Field) (pl : List (Nat × Nat)), (l.map fun f => ((P.info? f.type).map fun i => (f.offset, i.size))) = pl.map some →
      ((l.mapM fun f => do pure (f.offset, ← sizeOf f.type) : Sem (List (Nat × Nat)))).run P w = .ok pl w := by
    intro l
    induction l with
    | nil => intro pl h; cases pl with
      | nil => rfl
      | cons _ _ => simp at h
    | cons f t ih =>
      intro pl h
      cases pl with
      | nil => simp at h
      | cons p pt =>
        simp only [List.map_cons, List.cons.injEq] at h
        obtain ⟨h1, h2⟩ := h
        obtain ⟨i, hi, hp⟩ := Option.map_eq_some_iff.1 h1
        have e1 : (do pure (f.offset, ← sizeOf f.type) : Sem (Nat × Nat)).run P w = .ok p w := by
          simp [sizeOf, typeInfo, hi, hp]
        rw [List.mapM_cons, Sem.run_bind, e1]
        simp only [Result.andThen_ok, Sem.run_bind, ih pt h2, Sem.run_pure]
  cases fs with
  | mk l =>
    have := main l pl h
    rw [show (⟨l⟩ : Array Field) = l.toArray from rfl, List.mapM_toArray, Sem.run_map, this]
    rfl

/-- A struct that is built of its fields. -/
theorem HL_build {ps : List (Nat × Operand)} {pvs : List Value} {qs : List (List Value)} {pl : List (Nat × Nat)} {zs cs : List Value} (hd : Nat.blt d N = true) (hz : TyZ P T (.agg ⟨zs⟩)) (hpl : Plc P T pl)
    (hx : evs F (ps.map (·.2)) = some pvs) (hq : pvs.map Value.cells = qs.map List.toArray) (hb : bld pl zs ((ps.map (·.1)).zip qs) = some cs)
    (k : HL P ops Q N ((d, .agg cs.toArray) :: F) E R As l) : HL P ops Q N F E R As (⟨some d, .build T ps.toArray, ty, pos, af, none⟩ :: l) :=
  HL_same hd (fun a w ha hs => by
    obtain ⟨fs, hfs, hm⟩ := hpl
    have hev := ha.evals hx
    have hfill := fill_bld (pl := pl) (place := fun i => pl.toArray[i]?) (ps.map fun p => (p.1, a.eval p.2)) ((ps.map (·.1)).zip qs) zs cs (fun p _ => by simp) ?_ hb
    · have hz' := hz.run_zero (w := w)
      show Sem.run P (do let r ← Instr.build T (ps.toArray.map fun (i, x) => (i, a.eval x)); pure (Next.value r)) w = _
      have hps : (ps.toArray.map fun (i, x) => (i, a.eval x)).toList = ps.map fun p => (p.1, a.eval p.2) := by simp
      have hb1 : (Instr.build T (ps.toArray.map fun (i, x) => (i, a.eval x))).run P w = .ok (.agg cs.toArray) w := by
        simp only [Instr.build, Sem.run_bind, hz', Result.andThen_ok, run_underlying' hfs, Plc.run hm w, hps, Value.cells, hfill, Sem.run_pure]
      rw [Sem.run_bind, hb1]; rfl
    · have hlen : ps.length = qs.length := by
        have h1 := congrArg List.length hev
        have h2 := congrArg List.length hq
        simp at h1 h2
        omega
      rw [← hev] at hq
      clear hb hx hev
      induction ps generalizing qs with
      | nil => cases qs with
        | nil => rfl
        | cons _ _ => simp at hlen
      | cons p t ih => cases qs with
        | nil => simp at hlen
        | cons q qt =>
          simp only [List.map_cons, List.cons.injEq] at hq
          simp only [List.map_cons, List.zip_cons_cons, hq.1]
          congr 1
          exact ih hq.2 (by simpa using hlen)) k

theorem parts_eq {ps : List (Nat × Operand)} {pvs : List Value} {qs : List (List Value)} {a : Act} (ha : Fr a N F) (hx : evs F (ps.map (·.2)) = some pvs) (hq : pvs.map Value.cells = qs.map List.toArray) :
    (ps.map fun p => (p.1, a.eval p.2)).map (fun p => (p.1, p.2.cells)) = ((ps.map (·.1)).zip qs).map fun q => (q.1, q.2.toArray) := by
  have hev := ha.evals hx
  have hlen : ps.length = qs.length := by
    have h1 := congrArg List.length hev
    have h2 := congrArg List.length hq
    simp at h1 h2
    omega
  rw [← hev] at hq
  clear hx hev
  induction ps generalizing qs with
  | nil => cases qs with
    | nil => rfl
    | cons _ _ => simp at hlen
  | cons p t ih => cases qs with
    | nil => simp at hlen
    | cons q qt =>
      simp only [List.map_cons, List.cons.injEq] at hq
      simp only [List.map_cons, List.zip_cons_cons, hq.1]
      congr 1
      exact ih hq.2 (by simpa using hlen)

/-- A slice that is built of its elements. -/
theorem HL_buildSlice {te len sz : Nat} {agg : Bool} {z : Value} {ps : List (Nat × Operand)} {pvs : List Value} {qs : List (List Value)} {cs : List Value} (hd : Nat.blt d N = true) (hT : P.underlying T = some (.slice te)) (hte : Ty P te agg sz) (hz : TyZ P te z)
    (hsm : Nat.ble (len * sz) 16777216 = true) (hx : evs F (ps.map (·.2)) = some pvs) (hq : pvs.map Value.cells = qs.map List.toArray) (hi : (ps.all fun p => Nat.blt p.1 len) = true)
    (hb : ∀ zs, zs.length = len * sz → bld ((List.range len).map fun i => (i * sz, sz)) zs ((ps.map (·.1)).zip qs) = some cs)
    (k : ∀ b, HL P ops Q N ((d, .slice (some ⟨b, 0, none⟩) len len) :: F) E R (blk b cs te :: As) l) : HL P ops Q N F E R As (⟨some d, .buildSlice T len ps.toArray, ty, pos, af, none⟩ :: l) := fun a w ha hs => by
  have hsm' : ¬ 2 ^ 24 < len * sz := by
    have : len * sz ≤ 16777216 := by simpa using hsm
    omega
  refine wp_value rfl (v := .slice (some ⟨w.heap.size, 0, none⟩) len len) (w' := { w with heap := w.heap.push (.cells cs.toArray te (0, 0)) }) ?_ (k w.heap.size _ _ (ha.put hd) (hs.push _))
  show Sem.run P (do let r ← Instr.buildSlice T len (ps.toArray.map fun (i, x) => (i, a.eval x)); pure (Next.value r)) w = _
  have hps : (ps.toArray.map fun (i, x) => (i, a.eval x)).toList = ps.map fun p => (p.1, a.eval p.2) := by simp
  have hzr := hz.run_zero (w := w)
  have hpl : ∀ p ∈ (ps.map fun p => (p.1, a.eval p.2)), (fun i => some (i * sz, sz)) p.1 = ((List.range len).map fun i => (i * sz, sz))[p.1]? := by
    intro p hp
    obtain ⟨q, hq1, rfl⟩ := List.mem_map.1 hp
    have := List.all_eq_true.1 hi q hq1
    have hlt : q.1 < len := by simpa using this
    simp [hlt]
  have hfill : ∀ zs : List Value, zs.length = len * sz → Instr.fill (fun i => some (i * sz, sz)) ⟨zs⟩ (ps.map fun p => (p.1, a.eval p.2)) = some ⟨cs⟩ := fun zs hzs =>
    fill_bld _ _ zs cs hpl (parts_eq ha hx hq) (hb zs hzs)
  have hb1 : (Instr.buildSlice T len (ps.toArray.map fun (i, x) => (i, a.eval x))).run P w = .ok (.slice (some ⟨w.heap.size, 0, none⟩) len len) { w with heap := w.heap.push (.cells cs.toArray te (0, 0)) } := by
    simp only [Instr.buildSlice, Sem.run_bind, run_underlying' hT, Result.andThen_ok, hte.run_sizeOf, if_neg hsm', Sem.run_pure, hps]
    have hgen : ∀ zero : Array Value, Instr.fill (fun i => some (i * sz, sz)) (Array.map (fun x => zero[x % zero.size]!) (Array.range (len * sz))) (ps.map fun p => (p.1, a.eval p.2)) = some ⟨cs⟩ := fun zero => by
      have h0 := hfill ((Array.range (len * sz)).map (fun i => zero[i % zero.size]!)).toList (by simp)
      simpa only [Array.toArray_toList] using h0
    split
    · simp only [Sem.run_bind, Sem.run_pure, Result.andThen_ok, hgen, newRow, run_newObj]
    · simp only [Sem.run_bind, Sem.run_pure, Result.andThen_ok, hzr, hgen, newRow, run_newObj]
  rw [Sem.run_bind, hb1]; rfl

theorem spl_all : ∀ (zs vs : List Value), zs.length = vs.length → spl zs 0 vs = vs := by
  intro zs
  induction zs with
  | nil => intro vs h; cases vs with
    | nil => rfl
    | cons _ _ => simp at h
  | cons z t ih => intro vs h; cases vs with
    | nil => simp at h
    | cons v vt => simp [spl, ih vt (by simpa using h)]
theorem spl_two : ∀ (zs vs us : List Value), zs.length = vs.length + us.length → spl (spl zs 0 vs) vs.length us = vs ++ us := by
  intro zs vs us h
  apply List.ext_getElem?
  intro i
  rw [spl_get, spl_get, length_spl]
  by_cases h1 : i < vs.length
  · rw [if_neg (by omega), if_pos (by omega), List.getElem?_append_left h1]; simp
  · by_cases h2 : i < zs.length
    · rw [if_pos (by omega), List.getElem?_append_right (by omega)]
    · rw [if_neg (by omega), if_neg (by omega), List.getElem?_eq_none (by omega), List.getElem?_eq_none (by simp; omega)]

theorem HL_buildSlice0 {te sz : Nat} {agg : Bool} {z : Value} (hd : Nat.blt d N = true) (hT : P.underlying T = some (.slice te)) (hte : Ty P te agg sz) (hz : TyZ P te z)
    (k : ∀ b, HL P ops Q N ((d, .slice (some ⟨b, 0, none⟩) 0 0) :: F) E R (blk b [] te :: As) l) : HL P ops Q N F E R As (⟨some d, .buildSlice T 0 #[], ty, pos, af, none⟩ :: l) :=
  HL_buildSlice (ps := []) (qs := []) (cs := []) hd hT hte hz (by simp) rfl rfl rfl (fun zs h => by
    have : zs = [] := by simpa using h
    subst this; rfl) k
theorem HL_buildSlice1 {te sz : Nat} {agg : Bool} {z : Value} {vs : List Value} (hd : Nat.blt d N = true) (hT : P.underlying T = some (.slice te)) (hte : Ty P te agg sz) (hz : TyZ P te z) (hsm : Nat.ble sz 16777216 = true)
    (hx : ev F x = some v) (hv : v.cells = vs.toArray) (hl : Nat.beq vs.length sz = true)
    (k : ∀ b, HL P ops Q N ((d, .slice (some ⟨b, 0, none⟩) 1 1) :: F) E R (blk b vs te :: As) l) : HL P ops Q N F E R As (⟨some d, .buildSlice T 1 #[(0, x)], ty, pos, af, none⟩ :: l) :=
  HL_buildSlice (ps := [(0, x)]) (pvs := [v]) (qs := [vs]) (cs := vs) hd hT hte hz (by simpa using hsm) (by simp [evs, hx]) (by simp [hv]) rfl (fun zs h => by
    have hl' := Nat.eq_of_beq_eq_true hl
    have h1 : (List.range 1) = [0] := rfl
    simp only [h1, List.map_cons, List.map_nil, List.zip_cons_cons, List.zip_nil_right, bld, List.getElem?_cons_zero, Nat.zero_mul]
    rw [show (Nat.beq vs.length sz && Nat.ble (0 + vs.length) zs.length) = true by simp [hl']; omega]
    simp [spl_all zs vs (by omega)]) k
theorem HL_buildSlice2 {te sz : Nat} {agg : Bool} {z : Value} {vs us : List Value} (hd : Nat.blt d N = true) (hT : P.underlying T = some (.slice te)) (hte : Ty P te agg sz) (hz : TyZ P te z) (hsm : Nat.ble (2 * sz) 16777216 = true)
    (hx : ev F x = some v) (hv : v.cells = vs.toArray) (hl : Nat.beq vs.length sz = true) (hy : ev F y = some u) (hu : u.cells = us.toArray) (hl2 : Nat.beq us.length sz = true)
    (k : ∀ b, HL P ops Q N ((d, .slice (some ⟨b, 0, none⟩) 2 2) :: F) E R (blk b (vs ++ us) te :: As) l) : HL P ops Q N F E R As (⟨some d, .buildSlice T 2 #[(0, x), (1, y)], ty, pos, af, none⟩ :: l) :=
  HL_buildSlice (ps := [(0, x), (1, y)]) (pvs := [v, u]) (qs := [vs, us]) (cs := vs ++ us) hd hT hte hz (by simpa using hsm) (by simp [evs, hx, hy]) (by simp [hv, hu]) rfl (fun zs h => by
    have hl' := Nat.eq_of_beq_eq_true hl
    have hl2' := Nat.eq_of_beq_eq_true hl2
    have h1 : (List.range 2) = [0, 1] := rfl
    simp only [h1, List.map_cons, List.map_nil, List.zip_cons_cons, List.zip_nil_right, bld, List.getElem?_cons_zero, List.getElem?_cons_succ, Nat.zero_mul, Nat.one_mul]
    rw [show (Nat.beq vs.length sz && Nat.ble (0 + vs.length) zs.length) = true by simp [hl']; omega]
    simp only [cond_true, length_spl]
    rw [show (Nat.beq us.length sz && Nat.ble (sz + us.length) zs.length) = true by simp [hl2']; omega]
    have := spl_two zs vs us (by omega)
    rw [hl'] at this
    simp [this]) k

/-! ## append -/

/-- A slice that the call owns: it begins a block of its own, whose first cells are 'xs'. -/
def OwnS (te sz : Nat) (v : Value) (n : Nat) (xs : List Value) (e : Ent) : Prop :=
  xs.length = n * sz ∧ ((v = .slice none 0 0 ∧ n = 0 ∧ e = .emp) ∨
    ∃ g cap cur, v = .slice (some ⟨g, 0, none⟩) n cap ∧ e = .obj g (.cells ⟨cur⟩ te (0, 0)) ∧ n ≤ cap ∧ cap ≤ maxLen ∧ cur.length = cap * sz ∧ cur.take (n * sz) = xs)

theorem OwnS.nil (te sz : Nat) : OwnS te sz (.slice none 0 0) 0 [] .emp := ⟨by simp, .inl ⟨rfl, rfl, rfl⟩⟩

/-- What is owned, in its place. -/
inductive Pl : List Ent → Ent → (Ent → List Ent) → Prop
  | here {e l} : Pl (e :: l) e (fun x => x :: l)
  | there {y e l C} : Pl l e C → Pl (y :: l) e (fun x => y :: C x)

theorem Pl.split {l e C} (h : Pl l e C) : ∃ p q, l = p ++ e :: q ∧ ∀ x, C x = p ++ x :: q := by
  induction h with
  | here => exact ⟨[], _, rfl, fun _ => rfl⟩
  | there _ ih =>
    obtain ⟨p, q, rfl, h⟩ := ih
    exact ⟨_ :: p, q, rfl, fun x => by simp [h x]⟩

theorem St.swap {E w R p q e e'} (h : St E w R (p ++ e :: q)) {w' : World} (hos : w'.os = w.os) (ht : w'.tape = w.tape) (hout : w'.output = w.output)
    (hold : ∀ k, k < w.heap.size → Ent.id e ≠ some k → w'.heap[k]? = w.heap[k]?)
    (hnew : ∀ b o, e' = .obj b o → w'.heap[b]? = some o ∧ (Ent.id e = some b ∨ w.heap.size ≤ b)) : St E w' R (p ++ e' :: q) := by
  have hRne : ∀ b o, R b = some o → Ent.id e ≠ some b := fun b o hb hid => by
    cases e with
    | emp => cases hid
    | obj b' o' =>
      simp only [Ent.id, Option.some.injEq] at hid
      subst hid
      rw [h.apart b' o' (by simp)] at hb; cases hb
  have hpq : ∀ b o, Ent.obj b o ∈ p ++ q → Ent.id e ≠ some b := fun b o hb hid => by
    cases e with
    | emp => cases hid
    | obj b' o' =>
      simp only [Ent.id, Option.some.injEq] at hid
      exact id_ne h.nodup hb hid.symm
  have hmem : ∀ b o, Ent.obj b o ∈ p ++ q → Ent.obj b o ∈ p ++ e :: q := fun b o hb => by
    rcases List.mem_append.1 hb with x | x <;> simp [x]
  refine ⟨hos.trans h.os, ht.trans h.tape, hout.trans h.output, fun b o hb => ?_, fun b o hb => ?_, fun b o hb => ?_, ?_⟩
  · rw [hold b (h.lt hb) (hRne b o hb)]; exact h.sees b o hb
  · rcases mem_replace (e := e) hb with he | hb
    · exact (hnew b o he.symm).1
    · rw [hold b (h.lt_own (hmem b o hb)) (hpq b o hb)]; exact h.own b o (hmem b o hb)
  · rcases mem_replace (e := e) hb with he | hb
    · rcases (hnew b o he.symm).2 with hid | hge
      · cases hR : R b with
        | none => rfl
        | some o2 => exact absurd hid (hRne b o2 hR)
      · cases hR : R b with
        | none => rfl
        | some o2 => exact absurd (h.lt hR) (by omega)
    · exact h.apart b o (hmem b o hb)
  · have hn := h.nodup
    simp only [List.filterMap_append, List.filterMap_cons] at hn ⊢
    cases he' : Ent.id e' with
    | none =>
      cases he : Ent.id e with
      | none => simpa [he] using hn
      | some k =>
        rw [he] at hn
        simp only at hn ⊢
        rw [List.nodup_append] at hn ⊢
        exact ⟨hn.1, (List.nodup_cons.1 hn.2.1).2, fun a ha c hc => hn.2.2 a ha c (List.mem_cons_of_mem _ hc)⟩
    | some b =>
      have hb : b ∉ (p ++ q).filterMap Ent.id := by
        intro hm
        obtain ⟨x, hx, hid⟩ := List.mem_filterMap.1 hm
        cases x with
        | emp => cases hid
        | obj b2 o2 =>
          simp only [Ent.id, Option.some.injEq] at hid
          subst hid
          cases e' with
          | emp => cases he'
          | obj b3 o3 =>
            simp only [Ent.id, Option.some.injEq] at he'
            subst he'
            rcases (hnew b3 o3 rfl).2 with hid | hge
            · exact hpq b3 o2 hx hid
            · exact absurd (h.lt_own (hmem b3 o2 hx)) (by omega)
      have hpq' : ((p ++ q).filterMap Ent.id).Nodup := by
        simp only [List.filterMap_append]
        cases he : Ent.id e with
        | none => simpa [he] using hn
        | some k =>
          rw [he] at hn
          simp only at hn
          rw [List.nodup_append] at hn ⊢
          exact ⟨hn.1, (List.nodup_cons.1 hn.2.1).2, fun a ha c hc => hn.2.2 a ha c (List.mem_cons_of_mem _ hc)⟩
      simp only [List.filterMap_append] at hb hpq' ⊢
      rw [List.nodup_append] at hpq' ⊢
      refine ⟨hpq'.1, List.nodup_cons.2 ⟨fun h => hb (List.mem_append.2 (.inr h)), hpq'.2.1⟩, fun a ha c hc => ?_⟩
      rcases List.mem_cons.1 hc with rfl | hc
      · rintro rfl; exact hb (List.mem_append.2 (.inl ha))
      · exact hpq'.2.2 a ha c hc

theorem OwnS.owns {te sz : Nat} {v : Value} {n : Nat} {xs : List Value} {e : Ent} (h : OwnS te sz v n xs e) {E : Env} {w : World} {R : Frag} {As : List Ent} (hs : St E w R As) (hm : e ∈ As) :
    w.ownsRow 0 te sz v n xs := by
  refine ⟨h.1, ?_⟩
  rcases h.2 with ⟨h1, h2, _⟩ | ⟨g, cap, cur, h1, rfl, h3, h4, h5, h6⟩
  · exact .inl ⟨h1, h2⟩
  · exact .inr ⟨g, cap, ⟨cur⟩, h1, by omega, hs.own _ _ hm, h3, h4, by simpa using h5, by simpa using h6⟩

/-- append to a slice of the call's own. -/
theorem HL_append {t te sz bytes m c n b2 o2 : Nat} {agg : Bool} {z : Value} {s : Operand} {xs ys : List Value} {e : Ent} {C : Ent → List Ent} (hd : Nat.blt d N = true) (hT : P.underlying t = some (.slice te)) (hte : Ty P te agg sz)
    (hz : TyZ P te z) (hby : TyB P te bytes) (hzs : Nat.beq z.cells.size sz = true) (hsz : Nat.blt 0 sz = true) (hsv : ev F s = some v) (hown : OwnS te sz v n xs e) (hpl : Pl As e C)
    (hx : ev F x = some (.slice (some ⟨b2, o2, none⟩) m c)) (hr : Rd As R b2 o2 (m * sz) ys) (ho : ones ys = true) (hb1 : n + m ≤ maxLen) (hb2 : (n + m) * bytes ≤ 140737488355328)
    (k : ∀ v' e', OwnS te sz v' (n + m) (xs ++ ys) e' → HL P ops Q N ((d, v') :: F) E R (C e') l) :
    HL P ops Q N F E R As (⟨some d, .call ⟨.builtin .append, #[s, x], #[t, t]⟩, ty, pos, af, none⟩ :: l) := fun a w ha hs => by
  obtain ⟨i, hi, hisz⟩ := hte.info
  obtain ⟨i', hi', hiz⟩ := hz
  obtain ⟨i'', hi'', hib⟩ := hby
  rw [hi] at hi' hi''
  injection hi' with hi'
  injection hi'' with hi''
  subst hi'
  subst hi''
  obtain ⟨p, q, rfl, hC⟩ := hpl.split
  have hmem : e ∈ p ++ e :: q := by simp
  have hor := hown.owns hs hmem
  obtain ⟨v', w', hrun, hown', hg, _⟩ := run_append_own w 0 t ty te i z sz bytes hT hi hiz hisz hib (Nat.eq_of_beq_eq_true hzs) (by simpa using hsz) v n xs hor ⟨b2, o2, none⟩ m c ys hr.len
    (fun j u hu => by rw [Addr.add_mk]; exact hr.cells hs j u hu) (fun u hu => List.all_eq_true.1 ho u hu) hb1 hb2 (by omega)
  -- what is owned behind it
  have hid : Ent.id e = v.ownBlock := by
    rcases hown.2 with ⟨rfl, _, rfl⟩ | ⟨g, cap, cur, rfl, rfl, _⟩ <;> rfl
  obtain ⟨e', he', hnew⟩ : ∃ e', OwnS te sz v' (n + m) (xs ++ ys) e' ∧ ∀ b o, e' = .obj b o → w'.heap[b]? = some o ∧ (Ent.id e = some b ∨ w.heap.size ≤ b) := by
    rcases hown'.2 with ⟨h1, h2⟩ | ⟨g, cap, cur, h1, _, h3, h4, h5, h6, h7⟩
    · exact ⟨.emp, ⟨hown'.1, .inl ⟨h1, h2, rfl⟩⟩, fun b o h => by cases h⟩
    · refine ⟨.obj g (.cells cur te (0, 0)), ⟨hown'.1, .inr ⟨g, cap, cur.toList, h1, rfl, h4, h5, by simpa using h6, h7⟩⟩, fun b o h => ?_⟩
      injection h with hb ho'
      subst hb; subst ho'
      refine ⟨h3, ?_⟩
      rcases hown.2 with ⟨hv, hn0, he0⟩ | ⟨g0, cap0, cur0, hv, he0, k3, k4, k5, k6⟩
      · subst hv; subst hn0
        have hx0 : xs = [] := List.eq_nil_of_length_eq_zero (by simpa using hown.1)
        subst hx0
        obtain ⟨v2, w2, hr2, ho2, _, _⟩ := run_append_own w w.heap.size t ty te i z sz bytes hT hi hiz hisz hib (Nat.eq_of_beq_eq_true hzs) (by simpa using hsz) _ 0 [] (World.ownsRow_nil w w.heap.size te sz) ⟨b2, o2, none⟩ m c ys hr.len
          (fun j u hu => by rw [Addr.add_mk]; exact hr.cells hs j u hu) (fun u hu => List.all_eq_true.1 ho u hu) hb1 hb2 (Nat.le_refl _)
        rw [hrun] at hr2
        injection hr2 with e1 _
        subst e1
        rcases ho2.2 with ⟨j1, _⟩ | ⟨g2, cap2, cur2, j1, j2, _⟩
        · rw [h1] at j1; cases j1
        · rw [h1] at j1
          injection j1 with j1 _ _
          injection j1 with j1
          injection j1 with j1 _ _
          subst j1
          exact .inr j2
      · subst hv; subst he0
        have hg0 := hs.own _ _ hmem
        by_cases hroom : n + m ≤ cap0
        · have hfit : n * i.size + ys.length ≤ (⟨cur0⟩ : Array Value).size := by
            rw [hr.len, hisz]
            simp only [List.size_toArray, k5, ← Nat.add_mul]
            exact Nat.mul_le_mul_right _ hroom
          have hr3 := run_append_room (P := P) w t ty te i hT hi g0 n cap0 ⟨cur0⟩ hg0 ⟨b2, o2, none⟩ m c ys (by rw [hr.len, hisz]) (fun j u hu => by rw [Addr.add_mk]; exact hr.cells hs j u hu) (fun u hu => List.all_eq_true.1 ho u hu) hroom hfit
          rw [hrun] at hr3
          injection hr3 with e1 _
          rw [h1] at e1
          injection e1 with e1 _ _
          injection e1 with e1
          injection e1 with e1 _ _
          subst e1
          exact .inl rfl
        · have holds : ∀ j u, xs[j]? = some u → w.cell? ((⟨g0, 0, none⟩ : Addr).add j) = some u := hor.cells (g := g0) rfl
          have hr3 := run_append_grow (P := P) w t ty te i z hT hi hiz ⟨g0, 0, none⟩ n cap0 xs (by rw [hown.1, hisz]) holds ⟨b2, o2, none⟩ m c ys (by rw [hr.len, hisz]) (fun j u hu => by rw [Addr.add_mk]; exact hr.cells hs j u hu) (by omega) (by have hb1' := hb1; simp only [maxLen] at hb1'; omega) (growslice_fits (by omega) (by rw [hib]; exact hb2))
          rw [hrun] at hr3
          injection hr3 with e1 _
          rw [h1] at e1
          injection e1 with e1 _ _
          injection e1 with e1
          injection e1 with e1 _ _
          subst e1
          exact .inr (Nat.le_refl _)
  refine wp_value rfl (v := v') (w' := w') ?_ ?_
  · show Sem.run P (do let d ← resolve a.eval _ ty; invoke d.target d.args) w = _
    simp only [resolve, Sem.run_bind, Sem.run_pure, Result.andThen_ok, invoke, builtin]
    have e1 : (#[s, x].map a.eval) = #[v, .slice (some ⟨b2, o2, none⟩) m c] := by simp [ha.eval hsv, ha.eval hx]
    rw [e1, hrun]; rfl
  · have := k v' e' he' (a.put (some d) v') w' (ha.put hd) (by
      rw [hC]
      refine hs.swap hg.os hg.tape hg.output (fun k hk hne => hg.block k hk (fun e2 => hne (by rw [hid]; exact e2.symm))) hnew)
    exact this
end
end Go.Sx
