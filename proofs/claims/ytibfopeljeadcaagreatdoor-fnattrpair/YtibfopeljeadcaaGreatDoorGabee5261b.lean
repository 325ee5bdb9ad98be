/- Texts that the proofs of the cards rest on, part 1. -/
import Derived.WalkKit
import Derived.Orders
import Derived.Conc.Events
import Derived.Test.YtibfopeljeadcaaGreatDoorProg
import Derived.Lib.Bytealg
/-! A Hoare logic over the model's code: states are a frame (what temporaries hold), a fragment of memory that stays as it is, and a list of blocks that the call owns. Generic: no program is named. -/
namespace Go.Sx
open Go Go.RowKit

/-! ## Memory that stays; memory that is owned -/

abbrev Frag := Nat → Option Obj

def Frag.le (R R' : Frag) : Prop := ∀ b o, R b = some o → R' b = some o

theorem Frag.le_refl (R : Frag) : Frag.le R R := fun _ _ h => h
theorem Frag.le_trans {R R' R'' : Frag} (h : Frag.le R R') (h' : Frag.le R' R'') : Frag.le R R'' := fun b o e => h' b o (h b o e)

structure Env where
 os : Os
 tape : Nat → Question → Nat
 output : Array (Nat × ByteArray)

inductive Ent where
 | emp
 | obj (b : Nat) (o : Obj)

abbrev blk (b : Nat) (cs : List Value) (T : TypeId) : Ent := Ent.obj b (.cells ⟨cs⟩ T (0, 0))

def Ent.id : Ent → Option Nat
 | .emp => none
 | .obj b _ => some b

structure St (E : Env) (w : World) (R : Frag) (As : List Ent) : Prop where
 os : w.os = E.os
 tape : w.tape = E.tape
 output : w.output = E.output
 sees : ∀ b o, R b = some o → w.heap[b]? = some o
 own : ∀ b o, Ent.obj b o ∈ As → w.heap[b]? = some o
 apart : ∀ b o, Ent.obj b o ∈ As → R b = none
 nodup : (As.filterMap Ent.id).Nodup

/-- 'As' holds 'e' somewhere. -/
inductive Mem : List Ent → Ent → Prop
 | here {e l} : Mem (e :: l) e
 | there {x e l} : Mem l e → Mem (x :: l) e

theorem Mem.mem {l : List Ent} {e : Ent} (h : Mem l e) : e ∈ l := by
 induction h with
 | here => exact List.mem_cons_self
 | there _ ih => exact List.mem_cons_of_mem _ ih

/-- 'l' holds 'e' somewhere; 'l'' is 'l' with 'e'' in its place. -/
inductive Sel : List Ent → Ent → Ent → List Ent → Prop
 | here {e e' l} : Sel (e :: l) e e' (e' :: l)
 | there {x e e' l l'} : Sel l e e' l' → Sel (x :: l) e e' (x :: l')

theorem Sel.split {l e e' l'} (h : Sel l e e' l') : ∃ p q, l = p ++ e :: q ∧ l' = p ++ e' :: q := by
 induction h with
 | here => exact ⟨[], _, rfl, rfl⟩
 | there _ ih =>
  obtain ⟨p, q, rfl, rfl⟩ := ih
  exact ⟨_ :: p, q, rfl, rfl⟩

theorem Sel.mem {l e e' l'} (h : Sel l e e' l') : e ∈ l := by
 obtain ⟨p, q, rfl, rfl⟩ := h.split
 simp

/-- 'l'' is 'l' without one 'e'. -/
inductive Out : List Ent → Ent → List Ent → Prop
 | here {e l} : Out (e :: l) e l
 | there {x e l l'} : Out l e l' → Out (x :: l) e (x :: l')

theorem Out.split {l e l'} (h : Out l e l') : ∃ p q, l = p ++ e :: q ∧ l' = p ++ q := by
 induction h with
 | here => exact ⟨[], _, rfl, rfl⟩
 | there _ ih =>
  obtain ⟨p, q, rfl, rfl⟩ := ih
  exact ⟨_ :: p, q, rfl, rfl⟩

/-! ## How a state goes on -/

theorem St.lt {E w R As} (h : St E w R As) {b o} (hb : R b = some o) : b < w.heap.size := by
 have := h.sees b o hb
 exact (Array.getElem?_eq_some_iff.1 this).1

theorem St.lt_own {E w R As} (h : St E w R As) {b o} (hb : Ent.obj b o ∈ As) : b < w.heap.size := by
 have := h.own b o hb
 exact (Array.getElem?_eq_some_iff.1 this).1

theorem St.drew {E w R As} (h : St E w R As) (n : Nat) : St E { w with drawn := n } R As :=
 ⟨h.os, h.tape, h.output, h.sees, h.own, h.apart, h.nodup⟩

/-- A new block. -/
theorem St.push {E w R As} (h : St E w R As) (o : Obj) : St E { w with heap := w.heap.push o } R (.obj w.heap.size o :: As) := by
 refine ⟨h.os, h.tape, h.output, fun b o' hb => ?_, fun b o' hb => ?_, fun b o' hb => ?_, ?_⟩
 ·have hlt := h.lt hb
  have := h.sees b o' hb
  simp only [Array.getElem?_push]
  rw [if_neg (by omega)]; exact this
 ·simp only [Array.getElem?_push]
  rcases List.mem_cons.1 hb with he | hb
  ·injection he with e1 e2
   rw [if_pos e1, e2]
  have hlt := h.lt_own hb
  rw [if_neg (by omega)]; exact h.own b o' hb
 ·rcases List.mem_cons.1 hb with he | hb
  ·injection he with e1 e2
   subst e1
   cases hR : R w.heap.size with
   | none => rfl
   | some o2 => exact absurd (h.lt hR) (by omega)
  exact h.apart b o' hb
 simp only [List.filterMap_cons, Ent.id]
 refine List.nodup_cons.2 ⟨fun hm => ?_, h.nodup⟩
 obtain ⟨e, he, hid⟩ := List.mem_filterMap.1 hm
 cases e with
 | emp => cases hid
 | obj b o2 =>
  simp only [Ent.id, Option.some.injEq] at hid
  subst hid
  exact absurd (h.lt_own he) (by omega)

theorem mem_replace {p q : List Ent} {e e' x : Ent} (h : x ∈ p ++ e' :: q) : x = e' ∨ x ∈ p ++ q := by
 rcases List.mem_append.1 h with h | h
 ·exact .inr (List.mem_append.2 (.inl h))
 rcases List.mem_cons.1 h with h | h
 ·exact .inl h
 exact .inr (List.mem_append.2 (.inr h))

theorem id_ne {p q : List Ent} {b : Nat} {o : Obj} (hn : ((p ++ Ent.obj b o :: q).filterMap Ent.id).Nodup) {b2 o2}
  (h : Ent.obj b2 o2 ∈ p ++ q) : b2 ≠ b := by
 rintro rfl
 simp only [List.filterMap_append, List.filterMap_cons, Ent.id] at hn
 rw [List.nodup_append] at hn
 obtain ⟨_, h2, h3⟩ := hn
 rcases List.mem_append.1 h with h | h
 ·exact h3 b2 (List.mem_filterMap.2 ⟨_, h, rfl⟩) b2 (List.mem_cons_self) rfl
 exact (List.nodup_cons.1 h2).1 (List.mem_filterMap.2 ⟨_, h, rfl⟩)

/-- A block of one's own is turned. -/
theorem St.turn {E w R As As' b o o'} (h : St E w R As) (hs : Sel As (.obj b o) (.obj b o') As') {w' : World}
  (hos : w'.os = w.os) (ht : w'.tape = w.tape) (hout : w'.output = w.output)
  (hb : w'.heap[b]? = some o') (hold : ∀ k, k ≠ b → w'.heap[k]? = w.heap[k]?) : St E w' R As' := by
 obtain ⟨p, q, rfl, rfl⟩ := hs.split
 have hap := h.apart b o (by simp)
 refine ⟨hos.trans h.os, ht.trans h.tape, hout.trans h.output, fun k o2 hk => ?_, fun k o2 hk => ?_, fun k o2 hk => ?_, ?_⟩
 ·rw [hold k (by rintro rfl; rw [hap] at hk; cases hk)]
  exact h.sees k o2 hk
 ·rcases mem_replace (e := .obj b o) hk with he | hk
  ·injection he with e1 e2
   subst e1; subst e2; exact hb
  rw [hold k (id_ne h.nodup hk)]
  exact h.own k o2 (by rcases List.mem_append.1 hk with x | x <;> simp [x])
 ·rcases mem_replace (e := .obj b o) hk with he | hk
  ·injection he with e1 e2
   subst e1; exact hap
  exact h.apart k o2 (by rcases List.mem_append.1 hk with x | x <;> simp [x])
 have := h.nodup
 simpa [List.filterMap_append, Ent.id] using this

theorem St.perm {E w R As As'} (h : St E w R As) (hp : As.Perm As') : St E w R As' :=
 ⟨h.os, h.tape, h.output, h.sees, fun b o hb => h.own b o (hp.mem_iff.2 hb), fun b o hb => h.apart b o (hp.mem_iff.2 hb),
  (hp.filterMap Ent.id).nodup_iff.1 h.nodup⟩

/-- What is owned is let go. -/
theorem St.drop {E w R As As' e} (h : St E w R As) (ho : Out As e As') : St E w R As' := by
 obtain ⟨p, q, rfl, rfl⟩ := ho.split
 refine ⟨h.os, h.tape, h.output, h.sees, fun b o hb => h.own b o ?_, fun b o hb => h.apart b o ?_, ?_⟩
 ·rcases List.mem_append.1 hb with x | x <;> simp [x]
 ·rcases List.mem_append.1 hb with x | x <;> simp [x]
 have := h.nodup
 simp only [List.filterMap_append, List.filterMap_cons] at this ⊢
 cases he : Ent.id e with
 | none => simpa [he] using this
 | some k =>
  rw [he] at this
  simp only at this
  rw [List.nodup_append] at this ⊢
  refine ⟨this.1, (List.nodup_cons.1 this.2.1).2, fun a ha c hc => this.2.2 a ha c (List.mem_cons_of_mem _ hc)⟩

/-- What is owned is laid down: it stays as it is from here on. -/
theorem St.sealUp {E w R As As' b o} (h : St E w R As) (ho : Out As (.obj b o) As') :
  ∃ R', Frag.le R R' ∧ R' b = some o ∧ St E w R' As' := by
 have hd := h.drop ho
 obtain ⟨p, q, rfl, rfl⟩ := ho.split
 have hap := h.apart b o (by simp)
 have hown := h.own b o (by simp)
 refine ⟨fun k => if k = b then some o else R k, fun k o2 hk => ?_, by simp, ⟨hd.os, hd.tape, hd.output, fun k o2 hk => ?_, hd.own, fun k o2 hk => ?_, hd.nodup⟩⟩
 ·by_cases hkb : k = b
  ·subst hkb; rw [hap] at hk; cases hk
  simp [hkb, hk]
 ·by_cases hkb : k = b
  ·subst hkb; simp at hk; subst hk; exact hown
  simp [hkb] at hk; exact h.sees k o2 hk
 have hne := id_ne h.nodup hk
 simp [hne, hd.apart k o2 hk]

theorem St.cell {E w R As b cs T fr} (h : St E w R As) (hm : Ent.obj b (.cells cs T fr) ∈ As) (off : Nat) :
  w.cell? ⟨b, off, none⟩ = cs[off]? := by
 simp [World.cell?, h.own b _ hm]

theorem St.cellR {E w R As b cs T fr} (h : St E w R As) (hm : R b = some (.cells cs T fr)) (off : Nat) :
  w.cell? ⟨b, off, none⟩ = cs[off]? := by
 simp [World.cell?, h.sees b _ hm]

end Go.Sx

/-! The rules of the logic: frames, sequences, branches, loops, calls, results. Generic: no program is named. -/
namespace Go.Sx
open Go Go.RowKit

/-! ## Frames -/

def lk : List (Nat × Value) → Nat → Option Value
 | [], _ => none
 | (k, v) :: t, i => bif Nat.beq k i then some v else lk t i

structure Fr (a : Act) (N : Nat) (F : List (Nat × Value)) : Prop where
 size : a.tmps.size = N
 defers : a.defers = []
 look : ∀ i v, lk F i = some v → a.tmps[i]? = some v

def ev (F : List (Nat × Value)) : Operand → Option Value
 | .tmp t => lk F t
 | .const v => some v
 | .global g => some (.pointer (some ⟨g, 0, none⟩))
 | .func f => some (.func (.func f) #[] #[])

def evs (F : List (Nat × Value)) : List Operand → Option (List Value)
 | [] => some []
 | x :: t => match ev F x, evs F t with
  | some v, some vs => some (v :: vs)
  | _, _ => none

theorem Fr.eval {a N F x v} (h : Fr a N F) (hx : ev F x = some v) : a.eval x = v := by
 cases x with
 | tmp t => simp [Act.eval, h.look t v hx]
 | const v' => simpa [ev, Act.eval] using hx
 | global g => simpa [ev, Act.eval] using hx
 | func f => simpa [ev, Act.eval] using hx

theorem Fr.evals {a N F} (h : Fr a N F) : ∀ {xs vs}, evs F xs = some vs → xs.map a.eval = vs
 | [], vs, hx => by simpa [evs] using hx
 | x :: t, vs, hx => by
  unfold evs at hx
  split at hx
  ·rename_i v vs' h1 h2
   injection hx with hx
   subst hx
   simp [h.eval h1, h.evals h2]
  cases hx

theorem Fr.put {a N F d v} (h : Fr a N F) (hd : Nat.blt d N = true) : Fr (a.put (some d) v) N ((d, v) :: F) := by
 have hd' : d < N := by simpa using hd
 refine ⟨by simp [Act.put, h.size], h.defers, fun i u hi => ?_⟩
 simp only [lk] at hi
 by_cases he : d = i
 ·subst he
  simp only [Nat.beq_refl, cond_true, Option.some.injEq] at hi
  subst hi
  simp [Act.put, h.size, hd']
 have hb : Nat.beq d i = false := by
  cases hb : Nat.beq d i with
  | false => rfl
  | true => exact absurd (Nat.eq_of_beq_eq_true hb) he
 rw [hb] at hi
 simp only [cond_false] at hi
 simp only [Act.put]
 rw [Array.getElem?_setIfInBounds_ne he]
 exact h.look i u hi

/-- F' says no more than F. -/
def Sub (F : List (Nat × Value)) : List (Nat × Value) → Prop
 | [] => True
 | (i, v) :: t => lk F i = some v ∧ Sub F t

theorem Sub.look {F} : ∀ {F'}, Sub F F' → ∀ i v, lk F' i = some v → lk F i = some v
 | [], _, i, v, h => by cases h
 | (k, u) :: t, hs, i, v, h => by
  simp only [lk] at h
  cases hb : Nat.beq k i with
  | true =>
   rw [hb] at h
   simp only [cond_true, Option.some.injEq] at h
   rw [← Nat.eq_of_beq_eq_true hb, ← h]
   exact hs.1
  | false =>
   rw [hb] at h
   exact Sub.look hs.2 i v h

theorem Fr.sub {a N F F'} (h : Fr a N F) (hs : Sub F F') : Fr a N F' := ⟨h.size, h.defers, fun i v hi => h.look i v (hs.look i v hi)⟩

/-! ## The three judgements -/

section
variable (P : Program) (ops : Array Oper) (Q : Exit → Act → World → Prop) (N : Nat) (F : List (Nat × Value)) (E : Env) (R : Frag) (As : List Ent)

def HL (l : List Oper) : Prop := ∀ a w, Fr a N F → St E w R As → wpList P ops Q l a w
def HC (c : Code) : Prop := ∀ a w, Fr a N F → St E w R As → c.wp P Q a w
def HQ (e : Exit) : Prop := ∀ a w, Fr a N F → St E w R As → Q e a w
end

section
variable {P : Program} {ops : Array Oper} {Q : Exit → Act → World → Prop} {N : Nat} {F F' : List (Nat × Value)} {E : Env} {R : Frag} {As As' : List Ent}

theorem HC_perm {c} (As') (hp : As.Perm As') (h : HC P Q N F E R As' c) : HC P Q N F E R As c := fun a w ha hs' => h a w ha (hs'.perm hp)
theorem HL_perm {l} (As') (hp : As.Perm As') (h : HL P ops Q N F E R As' l) : HL P ops Q N F E R As l := fun a w ha hs' => h a w ha (hs'.perm hp)
theorem HQ_perm {e} (As') (hp : As.Perm As') (h : HQ Q N F E R As' e) : HQ Q N F E R As e := fun a w ha hs' => h a w ha (hs'.perm hp)
theorem HL_drop {l e As'} (ho : Out As e As') (h : HL P ops Q N F E R As' l) : HL P ops Q N F E R As l := fun a w ha hs' => h a w ha (hs'.drop ho)
theorem HQ_drop {x e As'} (ho : Out As e As') (h : HQ Q N F E R As' x) : HQ Q N F E R As x := fun a w ha hs' => h a w ha (hs'.drop ho)
theorem HC_seal {c b o As'} (ho : Out As (.obj b o) As') (h : ∀ R', Frag.le R R' → R' b = some o → HC P Q N F E R' As' c) : HC P Q N F E R As c := fun a w ha hs' => by
 obtain ⟨R', h1, h2, h3⟩ := hs'.sealUp ho
 exact h R' h1 h2 a w ha h3
theorem HL_seal {l b o As'} (ho : Out As (.obj b o) As') (h : ∀ R', Frag.le R R' → R' b = some o → HL P ops Q N F E R' As' l) : HL P ops Q N F E R As l := fun a w ha hs' => by
 obtain ⟨R', h1, h2, h3⟩ := hs'.sealUp ho
 exact h R' h1 h2 a w ha h3
theorem HQ_seal {x b o As'} (ho : Out As (.obj b o) As') (h : ∀ R', Frag.le R R' → R' b = some o → HQ Q N F E R' As' x) : HQ Q N F E R As x := fun a w ha hs' => by
 obtain ⟨R', h1, h2, h3⟩ := hs'.sealUp ho
 exact h R' h1 h2 a w ha h3

theorem HL_nil (h : HQ Q N F E R As .normal) : HL P ops Q N F E R As [] := h

/-! ### Code -/

theorem HC_region {id : Nat} {l : List Oper} (h : HL P l.toArray Q N F E R As l) : HC P Q N F E R As (.region id l.toArray false) :=
 fun a w ha hs => wp_region_lit (h a w ha hs)
theorem HC_seq {x y : Code} (h : HC P (Exit.then (y.wp P Q) Q) N F E R As x) : HC P Q N F E R As (.seq x y) :=
 fun a w ha hs => wp_seq (h a w ha hs)
theorem HC_block {id : Nat} {c : Code} (h : HC P (Exit.inBlock id Q) N F E R As c) : HC P Q N F E R As (.block id c) :=
 fun a w ha hs => wp_block (h a w ha hs)
theorem HC_skip (h : HQ Q N F E R As .normal) : HC P Q N F E R As .skip := fun a w ha hs => wp_skip (h a w ha hs)
theorem HC_exit {id : Nat} (h : HQ Q N F E R As (.exit id)) : HC P Q N F E R As (.exit id) := fun a w ha hs => wp_exit (h a w ha hs)
theorem HC_ret (h : HQ Q N F E R As .ret) : HC P Q N F E R As .ret := fun a w ha hs => wp_ret (h a w ha hs)
theorem HC_cond {x : Operand} {b : Bool} {c d : Code} (hx : ev F x = some (.bool b)) (ht : b = true → HC P Q N F E R As c) (hf : b = false → HC P Q N F E R As d) :
  HC P Q N F E R As (.cond x c d) := fun a w ha hs => wp_cond_split (ha.eval hx) (fun e => ht e a w ha hs) (fun e => hf e a w ha hs)
theorem HC_cond_t {x : Operand} {c d : Code} (hx : ev F x = some (.bool true)) (h : HC P Q N F E R As c) :
  HC P Q N F E R As (.cond x c d) := fun a w ha hs => wp_cond_true (ha.eval hx) (h a w ha hs)
theorem HC_cond_f {x : Operand} {c d : Code} (hx : ev F x = some (.bool false)) (h : HC P Q N F E R As d) :
  HC P Q N F E R As (.cond x c d) := fun a w ha hs => wp_cond_false (ha.eval hx) (h a w ha hs)

theorem HQ_then {y : Code} (h : HC P Q N F E R As y) : HQ (Exit.then (y.wp P Q) Q) N F E R As .normal := h
theorem HQ_then_exit {K : Act → World → Prop} {id : Nat} (h : HQ Q N F E R As (.exit id)) : HQ (Exit.then K Q) N F E R As (.exit id) := h
theorem HQ_then_ret {K : Act → World → Prop} (h : HQ Q N F E R As .ret) : HQ (Exit.then K Q) N F E R As .ret := h
theorem HQ_block {id : Nat} (h : HQ Q N F E R As .normal) : HQ (Exit.inBlock id Q) N F E R As .normal := h
theorem HQ_block_same {id : Nat} (h : HQ Q N F E R As .normal) : HQ (Exit.inBlock id Q) N F E R As (.exit id) := fun a w ha hs => by
 simp only [Exit.inBlock, if_true]; exact h a w ha hs
theorem HQ_block_ret {id : Nat} (h : HQ Q N F E R As .ret) : HQ (Exit.inBlock id Q) N F E R As .ret := h

/-! ### A loop -/

/-- What a round ends in. -/
def LI (Inv : List (Nat × Value) → Frag → List Ent → Nat → Prop) (N : Nat) (E : Env) (m : Nat) (a : Act) (w : World) : Prop :=
 ∃ F R As m', m' < m ∧ Inv F R As m' ∧ Fr a N F ∧ St E w R As

theorem HC_loop {body : Code} (Inv : List (Nat × Value) → Frag → List Ent → Nat → Prop) (F₀ : List (Nat × Value)) (As₀ : List Ent) (m₀ : Nat)
  (hsub : Sub F F₀) (hperm : As.Perm As₀) (h₀ : Inv F₀ R As₀ m₀)
  (round : ∀ F R As m, Inv F R As m → HC P (Exit.then (LI Inv N E m) Q) N F E R As body) : HC P Q N F E R As (.loop body) := by
 intro a w ha hs b k cs
 have key : ∀ n a w m, m = n → (∃ F R As, Inv F R As m ∧ Fr a N F ∧ St E w R As) →
   ∃ e a' w', Q e a' w' ∧ Arrives P (lone (b.at a (.code body :: .inLoop body :: k)) cs w) b k cs e a' w' := by
  intro n
  induction n using Nat.strongRecOn with
  | _ n ih =>
   intro a w m hm ⟨F, R, As, hI, hF, hS⟩
   obtain ⟨e, a₁, w₁, hq, harr⟩ := round F R As m hI a w hF hS b (.inLoop body :: k) cs
   cases e with
   | normal =>
    obtain ⟨F', R', As', m', hlt, hI', hF', hS'⟩ := hq
    obtain ⟨e₂, a₂, w₂, hq₂, harr₂⟩ := ih m' (hm ▸ hlt) a₁ w₁ m' rfl ⟨F', R', As', hI', hF', hS'⟩
    exact ⟨e₂, a₂, w₂, hq₂, .of_steps (Steps.trans harr (.one step_inLoop)) harr₂⟩
   | exit id => exact ⟨_, a₁, w₁, hq, .pass (x := .inLoop body) rfl (fun _ _ => .inl (by simp)) harr⟩
   | goto l => exact ⟨_, a₁, w₁, hq, .pass (x := .inLoop body) rfl (fun _ _ => .inl (by simp)) harr⟩
   | ret => exact ⟨_, a₁, w₁, hq, .pass (x := .inLoop body) rfl (fun _ _ => .inl (by simp)) harr⟩
   | panic ch => exact ⟨_, a₁, w₁, hq, .pass (x := .inLoop body) rfl (fun _ _ => .inl (by simp)) harr⟩
   | outgrown => exact ⟨_, a₁, w₁, hq, .pass (x := .inLoop body) rfl (fun _ _ => .inl (by simp)) harr⟩
 obtain ⟨e, a', w', hq, harr⟩ := key m₀ a w m₀ rfl ⟨F₀, R, As₀, h₀, ha.sub hsub, hs.perm hperm⟩
 exact ⟨e, a', w', hq, .of_steps (.one step_loop) harr⟩

/-- The end of a round. -/
theorem HQ_loop {Inv : List (Nat × Value) → Frag → List Ent → Nat → Prop} {m : Nat} (F₀ : List (Nat × Value)) (As₀ : List Ent) (m₀ : Nat)
  (hlt : m₀ < m) (hsub : Sub F F₀) (hperm : As.Perm As₀) (h₀ : Inv F₀ R As₀ m₀) : HQ (Exit.then (LI Inv N E m) Q) N F E R As .normal :=
 fun _ _ ha hs => ⟨F₀, R, As₀, m₀, hlt, h₀, ha.sub hsub, hs.perm hperm⟩

/-! ### Operations: what they have in common -/

theorem wp_value {o : Oper} {a : Act} {w w' : World} {v : Value} {rest : List Oper} (hg : o.guard = none)
  (hr : (execOp a.eval o).run P w = .ok (.value v) w') (h : wpList P ops Q rest (a.put o.dst v) w') : wpList P ops Q (o :: rest) a w :=
 wpList_plain hg fun K hK => by
  unfold Oper.wp
  rw [hr]
  exact hK _ _ h

theorem wp_none {o : Oper} {a : Act} {w w' : World} {rest : List Oper} (hg : o.guard = none)
  (hr : (execOp a.eval o).run P w = .ok .skip w') (h : wpList P ops Q rest (a.put o.dst undef) w') : wpList P ops Q (o :: rest) a w :=
 wpList_plain hg fun K hK => by
  unfold Oper.wp
  rw [hr]
  exact hK _ _ h

/-- An operation that yields a value. -/
theorem HL_val {d : Nat} {v : Value} {op : Op} {ty : TypeId} {pos : String} {af : Array Edge} {l : List Oper} {R' : Frag} (hd : Nat.blt d N = true)
  (h : ∀ a w, Fr a N F → St E w R As → ∃ w', (execOp a.eval ⟨some d, op, ty, pos, af, none⟩).run P w = .ok (.value v) w' ∧ St E w' R' As')
  (k : HL P ops Q N ((d, v) :: F) E R' As' l) : HL P ops Q N F E R As (⟨some d, op, ty, pos, af, none⟩ :: l) := fun a w ha hs => by
 obtain ⟨w', hr, hs'⟩ := h a w ha hs
 exact wp_value rfl hr (k _ _ (ha.put hd) hs')

/-- An operation that yields a value and leaves the world alone. -/
theorem HL_same {d : Nat} {v : Value} {op : Op} {ty : TypeId} {pos : String} {af : Array Edge} {l : List Oper} (hd : Nat.blt d N = true)
  (h : ∀ a w, Fr a N F → St E w R As → (execOp a.eval ⟨some d, op, ty, pos, af, none⟩).run P w = .ok (.value v) w)
  (k : HL P ops Q N ((d, v) :: F) E R As l) : HL P ops Q N F E R As (⟨some d, op, ty, pos, af, none⟩ :: l) :=
 HL_val hd (fun a w ha hs => ⟨w, h a w ha hs, hs⟩) k

/-- An operation that yields nothing. -/
theorem HL_none {op : Op} {ty : TypeId} {pos : String} {af : Array Edge} {l : List Oper}
  (h : ∀ a w, Fr a N F → St E w R As → ∃ w', (execOp a.eval ⟨none, op, ty, pos, af, none⟩).run P w = .ok .skip w' ∧ St E w' R As')
  (k : HL P ops Q N F E R As' l) : HL P ops Q N F E R As (⟨none, op, ty, pos, af, none⟩ :: l) := fun a w ha hs => by
 obtain ⟨w', hr, hs'⟩ := h a w ha hs
 exact wp_none rfl hr (k _ _ ha hs')

/-- A guarded operation: whether it is carried out. -/
theorem HL_guard_yes {d : Option Nat} {op : Op} {ty : TypeId} {pos : String} {af : Array Edge} {l : List Oper} {j t : Nat} {b : Bool}
  (hj : (ops[j]?).bind (·.dst) = some t) (ht : lk F t = some (.bool b))
  (k : HL P ops Q N F E R As (⟨d, op, ty, pos, af, none⟩ :: l)) : HL P ops Q N F E R As (⟨d, op, ty, pos, af, some (j, b)⟩ :: l) := fun a w ha hs => by
 have h := k a w ha hs
 have hy : Region.wanted ⟨d, op, ty, pos, af, some (j, b)⟩ (yielded ops a.tmps) = true := by
  simp [Region.wanted, yielded, hj, ha.look t _ ht]
 unfold wpList at h ⊢
 rw [if_pos hy]
 rw [if_pos (by simp [Region.wanted])] at h
 exact h

theorem HL_guard_no {d : Nat} {op : Op} {ty : TypeId} {pos : String} {af : Array Edge} {l : List Oper} {j t : Nat} {b b' : Bool} (hd : Nat.blt d N = true)
  (hj : (ops[j]?).bind (·.dst) = some t) (ht : lk F t = some (.bool b')) (hne : (b' == b) = false)
  (k : HL P ops Q N ((d, undef) :: F) E R As l) : HL P ops Q N F E R As (⟨some d, op, ty, pos, af, some (j, b)⟩ :: l) := fun a w ha hs => by
 have hy : Region.wanted ⟨some d, op, ty, pos, af, some (j, b)⟩ (yielded ops a.tmps) = false := by
  simp only [Region.wanted, yielded, hj, Option.bind_some, ha.look t _ ht]
  cases b <;> cases b' <;> simp_all
 unfold wpList
 rw [if_neg (by rw [hy]; simp)]
 exact k _ _ (ha.put hd) hs

/-! ### Calls -/

/-- What a call does, from a state. -/
def Tri (P : Program) (f : FuncId) (vs : List Value) (E : Env) (R : Frag) (As : List Ent) (Post : Value → Frag → List Ent → Prop) : Prop :=
 ∀ w, St E w R As → Calls P f vs.toArray w fun e w' => ∃ v R' As', e = .returned v ∧ St E w' R' As' ∧ Post v R' As'

theorem Tri.mono {f vs} {Post Post' : Value → Frag → List Ent → Prop} (h : Tri P f vs E R As Post) (hp : ∀ v R' As', Post v R' As' → Post' v R' As') : Tri P f vs E R As Post' :=
 fun w hs => (h w hs).mono fun _ _ ⟨v, R', As', he, hs', hq⟩ => ⟨v, R', As', he, hs', hp _ _ _ hq⟩

/-- A function that has a body. -/
def IsFn (P : Program) (f : FuncId) : Prop := ∃ fn, P.funcs[f]? = some fn ∧ (fn.name == "runtime.NumGoroutine") = false ∧ fn.body.isNone = false

theorem IsFn.run {f : FuncId} (h : IsFn P f) (args : Array Value) (w : World) : (callFunc f args).run P w = .ok (.enter f args) w := by
 obtain ⟨fn, h1, h2, h3⟩ := h
 have h2' : ¬ fn.name = "runtime.NumGoroutine" := by simpa using h2
 have h3' : ¬ fn.body = none := fun e => by simp [e] at h3
 simp [callFunc, h1, h2', h3']

theorem HL_call_gen {d : Nat} {op : Op} {ty : TypeId} {pos : String} {af : Array Edge} {l : List Oper} {f : FuncId} {vs : List Value} {Post : Value → Frag → List Ent → Prop}
  (hd : Nat.blt d N = true)
  (hop : ∀ a w, Fr a N F → St E w R As → (execOp a.eval ⟨some d, op, ty, pos, af, none⟩).run P w = .ok (.enter f vs.toArray) w)
  (hc : Tri P f vs E R As Post) (k : ∀ v R' As', Post v R' As' → HL P ops Q N ((d, v) :: F) E R' As' l) :
  HL P ops Q N F E R As (⟨some d, op, ty, pos, af, none⟩ :: l) := fun a w ha hs =>
 wpList_plain rfl fun K hK => by
  unfold Oper.wp
  rw [hop a w ha hs]
  refine (hc w hs).mono fun e w' ⟨v, R', As', he, hs', hp⟩ => ?_
  subst he
  exact hK _ _ (k v R' As' hp _ _ (ha.put hd) hs')

theorem run_call {ρ : Operand → Value} {d ty pos af} {f : FuncId} {xs : List Operand} {ats : Array TypeId} {vs : List Value} (hf : IsFn P f) (hx : xs.map ρ = vs) (w : World) :
  (execOp ρ ⟨d, .call ⟨.value (.func f), xs.toArray, ats⟩, ty, pos, af, none⟩).run P w = .ok (.enter f vs.toArray) w ∨ ρ (.func f) ≠ .func (.func f) #[] #[] := by
 by_cases hρ : ρ (.func f) = .func (.func f) #[] #[]
 ·left
  simp [execOp, resolve, Deferred.ofValue, invoke, hρ, hf.run, hx]
 exact .inr hρ

/-- A call of a function that the program's text names. -/
theorem HL_call {d : Nat} {ty : TypeId} {pos : String} {af : Array Edge} {l : List Oper} {f : FuncId} {xs : List Operand} {ats : Array TypeId} {vs : List Value} {Post : Value → Frag → List Ent → Prop}
  (hd : Nat.blt d N = true) (hf : IsFn P f) (hx : evs F xs = some vs)
  (hc : Tri P f vs E R As Post) (k : ∀ v R' As', Post v R' As' → HL P ops Q N ((d, v) :: F) E R' As' l) :
  HL P ops Q N F E R As (⟨some d, .call ⟨.value (.func f), xs.toArray, ats⟩, ty, pos, af, none⟩ :: l) :=
 HL_call_gen hd (fun a w ha _ => (run_call hf (ha.evals hx) w).resolve_right (by simp [Act.eval])) hc k
/-- A call of a function value. -/
theorem HL_callv {d : Nat} {ty : TypeId} {pos : String} {af : Array Edge} {l : List Oper} {f : FuncId} {y : Operand} {xs : List Operand} {ats : Array TypeId} {us ws vs : List Value} {Post : Value → Frag → List Ent → Prop}
  (hd : Nat.blt d N = true) (hf : IsFn P f) (hnf : ∀ g, y ≠ .func g) (hy : ev F y = some (.func (.func f) us.toArray ws.toArray)) (hx : evs F xs = some vs)
  (hc : Tri P f (us ++ vs ++ ws) E R As Post) (k : ∀ v R' As', Post v R' As' → HL P ops Q N ((d, v) :: F) E R' As' l) :
  HL P ops Q N F E R As (⟨some d, .call ⟨.value y, xs.toArray, ats⟩, ty, pos, af, none⟩ :: l) :=
 HL_call_gen hd (fun a w ha _ => by
  simp [execOp, resolve, Deferred.ofValue, invoke, ha.eval hy, hf.run, ha.evals hx]) hc k

/-! ### Functions -/

def frame0 (vs : List Value) : List (Nat × Value) := vs.zipIdx.map fun (v, i) => (i, v)

theorem lk_zip (vs : List Value) (n : Nat) : ∀ i v, lk ((vs.zipIdx n).map fun (v, i) => (i, v)) i = some v → n ≤ i ∧ vs[i - n]? = some v := by
 induction vs generalizing n with
 | nil => intro i v h; cases h
 | cons x t ih =>
  intro i v h
  simp only [List.zipIdx_cons, List.map_cons, lk] at h
  cases hb : Nat.beq n i with
  | true =>
   rw [hb] at h
   simp only [cond_true, Option.some.injEq] at h
   have := Nat.eq_of_beq_eq_true hb
   subst this
   simp [h]
  | false =>
   rw [hb] at h
   simp only [cond_false] at h
   obtain ⟨h1, h2⟩ := ih (n + 1) i v h
   refine ⟨by omega, ?_⟩
   obtain ⟨j, rfl⟩ : ∃ j, i = n + 1 + j := ⟨i - (n + 1), by omega⟩
   have e1 : n + 1 + j - n = j + 1 := by omega
   have e2 : n + 1 + j - (n + 1) = j := by omega
   rw [e1]; rw [e2] at h2
   simpa using h2

theorem Tri_enter {f : FuncId} {fn : Func} {c : Code} {vs : List Value} {Post : Value → Frag → List Ent → Prop} (hf : P.funcs[f]? = some fn) (hb : fn.body = some c) (hN : fn.ntmps = N)
  (hlen : Nat.ble vs.length N = true) (R : Frag) (As : List Ent)
  (h : HC P (bodyPost P fn fun e w' => ∃ v R' As', e = .returned v ∧ St E w' R' As' ∧ Post v R' As') N (frame0 vs) E R As c) : Tri P f vs E R As Post := fun w hs => by
 have hlen' : vs.length ≤ N := by simpa using hlen
 refine calls_of_wp hf hb (h _ w ⟨by simp; omega, rfl, fun i v hi => ?_⟩ hs)
 obtain ⟨_, h2⟩ := lk_zip vs 0 i v hi
 simp only [Nat.sub_zero] at h2
 have hi' : i < vs.length := (List.getElem?_eq_some_iff.1 h2).1
 rw [Array.getElem?_append_left (by simpa using hi')]
 simpa using h2

/-- A return: the results are in temporaries. -/
theorem HQ_ret {fn : Func} {Rp : Ending → World → Prop} {e : Exit} (he : e = .ret ∨ e = .normal) (v : Value)
  (hr : ∀ a w, Fr a N F → St E w R As → (results fn a.tmps).run P w = .ok v w) (h : ∀ w, St E w R As → Rp (.returned v) w) : HQ (bodyPost P fn Rp) N F E R As e := by
 rcases he with rfl | rfl <;> exact fun a w ha hs => ⟨ha.defers, v, hr a w ha hs, h w hs⟩

theorem run_results_tmp {fn : Func} {t : Nat} {v : Value} (hres : fn.results = #[.tmp t]) (ht : lk F t = some v) (a : Act) (w : World) (ha : Fr a N F) :
  (results fn a.tmps).run P w = .ok v w := by
 rw [results_tmp hres]
 simp [ha.look t v ht]
end
end Go.Sx

/-! The rules of the logic: operations, one rule each. Generic: no program is named. -/
namespace Go.Sx
open Go Go.RowKit

/-! ## What is asked of types: closed facts -/

def aggD : TypeDesc → Bool
 | .struct _ | .array _ _ => true
 | _ => false

structure Ty (P : Program) (T : TypeId) (agg : Bool) (n : Nat) : Prop where
 und : ∃ d, P.underlying T = some d ∧ aggD d = agg
 info : ∃ i, P.info? T = some i ∧ i.size = n
def TyZ (P : Program) (T : TypeId) (z : Value) : Prop := ∃ i, P.info? T = some i ∧ i.zero = some z
def TyB (P : Program) (T : TypeId) (n : Nat) : Prop := ∃ i, P.info? T = some i ∧ i.bytes = n
def Fld (P : Program) (T : TypeId) (f off : Nat) : Prop :=
 ∃ fs fd i, P.underlying T = some (.struct fs) ∧ fs[f]? = some fd ∧ fd.offset = off ∧ P.info? fd.type = some i ∧ i.size ≠ 0

section
variable {P : Program} {w : World}

theorem Ty.run_isAgg {T agg n} (h : Ty P T agg n) : (isAgg T).run P w = .ok agg w := by
 obtain ⟨d, h1, h2⟩ := h.und
 subst h2
 cases d <;> simp [isAgg, underlying, h1, aggD]
theorem Ty.run_sizeOf {T agg n} (h : Ty P T agg n) : (sizeOf T).run P w = .ok n w := by
 obtain ⟨i, h1, h2⟩ := h.info
 simp [sizeOf, typeInfo, h1, h2]
theorem TyZ.run_zero {T z} (h : TyZ P T z) : (zeroValue T).run P w = .ok z w := by
 obtain ⟨i, h1, h2⟩ := h
 simp [zeroValue, typeInfo, h1, h2]
theorem run_underlying' {T d} (h : P.underlying T = some d) : (underlying T).run P w = .ok d w := by
 simp [underlying, h]

/-! ## Cells -/

def cut : List Value → Nat → Nat → Option (List Value)
 | _, 0, 0 => some []
 | [], 0, _ + 1 => none
 | c :: cs, 0, n + 1 => (cut cs 0 n).map (c :: ·)
 | [], _ + 1, _ => none
 | _ :: cs, k + 1, n => cut cs k n

def spl : List Value → Nat → List Value → List Value
 | [], _, _ => []
 | c :: cs, 0, [] => c :: cs
 | _ :: cs, 0, v :: vs => v :: spl cs 0 vs
 | c :: cs, k + 1, vs => c :: spl cs k vs

theorem cut_eq : ∀ (cs : List Value) (off n : Nat) (vs : List Value), cut cs off n = some vs ↔ off + n ≤ cs.length ∧ vs = (cs.drop off).take n := by
 intro cs off n
 induction cs generalizing off n with
 | nil =>
  intro vs
  cases off <;> cases n <;> simp [cut, eq_comm]
 | cons c cs ih =>
  intro vs
  cases off with
  | zero =>
   cases n with
   | zero => simp [cut, eq_comm]
   | succ n =>
    simp only [cut, Option.map_eq_some_iff]
    constructor
    ·rintro ⟨vs', h, rfl⟩
     obtain ⟨h1, h2⟩ := (ih 0 n vs').1 h
     refine ⟨by simp; omega, by simp [h2]⟩
    rintro ⟨h1, rfl⟩
    refine ⟨_, (ih 0 n _).2 ⟨by simp at h1; omega, rfl⟩, by simp⟩
  | succ off =>
   simp only [cut]
   rw [ih off n vs]
   simp
   omega

theorem spl_nil (cs : List Value) (off : Nat) : spl cs off [] = cs := by
 induction cs generalizing off with
 | nil => cases off <;> rfl
 | cons c cs ih => cases off <;> simp [spl, ih]

theorem length_spl (cs : List Value) (off : Nat) (vs : List Value) : (spl cs off vs).length = cs.length := by
 induction cs generalizing off vs with
 | nil => cases off <;> cases vs <;> rfl
 | cons c cs ih => cases off <;> cases vs <;> simp [spl, ih]

theorem spl_get (cs : List Value) (off : Nat) (vs : List Value) (i : Nat) :
  (spl cs off vs)[i]? = if off ≤ i ∧ i < off + vs.length ∧ i < cs.length then vs[i - off]? else cs[i]? := by
 induction cs generalizing off vs i with
 | nil => cases off <;> cases vs <;> simp [spl]
 | cons c cs ih =>
  cases off with
  | zero =>
   cases vs with
   | nil => simp [spl]
   | cons v vs =>
    cases i with
    | zero => simp [spl]
    | succ i =>
     simp only [spl, List.getElem?_cons_succ, ih]
     simp
  | succ off =>
   cases i with
   | zero => simp [spl]
   | succ i =>
    simp only [spl, List.getElem?_cons_succ, ih, List.length_cons]
    have e : i + 1 - (off + 1) = i - off := by omega
    rw [e]
    by_cases h : off ≤ i ∧ i < off + vs.length ∧ i < cs.length
    ·rw [if_pos h, if_pos (by omega)]
    rw [if_neg h, if_neg (by omega)]

theorem spl_step (cs : List Value) (off : Nat) (v : Value) (vs : List Value) : spl (cs.set off v) (off + 1) vs = spl cs off (v :: vs) := by
 apply List.ext_getElem?
 intro i
 rw [spl_get, spl_get]
 simp only [List.length_set, List.length_cons]
 by_cases h1 : i = off
 ·subst h1
  by_cases h2 : i < cs.length
  ·rw [if_neg (by omega), if_pos (by omega)]
   simp [h2]
  rw [if_neg (by omega), if_neg (by omega)]
  rw [List.getElem?_eq_none (by simp; omega), List.getElem?_eq_none (by omega)]
 have h3 : (cs.set off v)[i]? = cs[i]? := by rw [List.getElem?_set_ne (by omega)]
 rw [h3]
 by_cases h : off + 1 ≤ i ∧ i < off + 1 + vs.length ∧ i < cs.length
 ·rw [if_pos h, if_pos (by omega)]
  obtain ⟨j, rfl⟩ : ∃ j, i = off + 1 + j := ⟨i - (off + 1), by omega⟩
  have e1 : off + 1 + j - (off + 1) = j := by omega
  have e2 : off + 1 + j - off = j + 1 := by omega
  rw [e1, e2]; simp
 rw [if_neg h, if_neg (by omega)]

theorem Addr.add_mk (b o n : Nat) : (⟨b, o, none⟩ : Addr).add n = ⟨b, o + n, none⟩ := by
 unfold Addr.add
 split
 ·rename_i h; subst h; rfl
 rfl

def ones (vs : List Value) : Bool := vs.all Value.oneCell'

/-- Cells that may be read: at a block of one's own, or at one that stays. -/
inductive Rd (As : List Ent) (R : Frag) (b off n : Nat) (vs : List Value) : Prop
 | own {cs T fr} : Mem As (.obj b (.cells ⟨cs⟩ T fr)) → cut cs off n = some vs → Rd As R b off n vs
 | fix {cs T fr} : R b = some (.cells ⟨cs⟩ T fr) → cut cs off n = some vs → Rd As R b off n vs

/-- Cells that stay. -/
def RdR (R : Frag) (b off n : Nat) (vs : List Value) : Prop := ∃ cs T fr, R b = some (.cells ⟨cs⟩ T fr) ∧ cut cs off n = some vs
theorem RdR.rd {As : List Ent} {R b off n vs} (h : RdR R b off n vs) : Rd As R b off n vs := by
 obtain ⟨cs, T, fr, h1, h2⟩ := h
 exact .fix h1 h2
theorem RdR.mono {R R' : Frag} (hle : Frag.le R R') {b off n vs} (h : RdR R b off n vs) : RdR R' b off n vs := by
 obtain ⟨cs, T, fr, h1, h2⟩ := h
 exact ⟨cs, T, fr, hle _ _ h1, h2⟩

theorem Rd.cells {E As R b off n vs} (h : Rd As R b off n vs) (hs : St E w R As) (j : Nat) (v : Value) (hv : vs[j]? = some v) : w.cell? ⟨b, off + j, none⟩ = some v := by
 have main : ∀ cs : List Value, cut cs off n = some vs → cs[off + j]? = some v := by
  intro cs hc
  obtain ⟨h1, rfl⟩ := (cut_eq _ _ _ _).1 hc
  rw [List.getElem?_take] at hv
  split at hv
  ·rw [List.getElem?_drop] at hv; exact hv
  cases hv
 cases h with
 | own hm hc => rw [hs.cell hm.mem]; simpa using main _ hc
 | fix hm hc => rw [hs.cellR hm]; simpa using main _ hc

theorem Rd.len {As R b off n vs} (h : Rd As R b off n vs) : vs.length = n := by
 have main : ∀ cs : List Value, cut cs off n = some vs → vs.length = n := by
  intro cs hc
  obtain ⟨h1, rfl⟩ := (cut_eq _ _ _ _).1 hc
  simp; omega
 cases h with
 | own hm hc => exact main _ hc
 | fix hm hc => exact main _ hc

theorem run_loadCells_rd {E As R b off n vs} (h : Rd As R b off n vs) (hs : St E w R As) : (loadCells ⟨b, off, none⟩ n).run P w = .ok vs.toArray w := by
 have := run_loadCells_list (P := P) w ⟨b, off, none⟩ vs (fun j v hv => by rw [Addr.add_mk]; exact h.cells hs j v hv)
 rwa [h.len] at this

theorem run_loadVar_agg {E As R b off n vs T} (hT : Ty P T true n) (h : Rd As R b off n vs) (hs : St E w R As) : (loadVar T ⟨b, off, none⟩).run P w = .ok (.agg vs.toArray) w := by
 simp [loadVar, hT.run_isAgg, hT.run_sizeOf, run_loadCells_rd h hs]
theorem run_loadVar_one {E As R b off n v T} (hT : Ty P T false n) (h : Rd As R b off 1 [v]) (hs : St E w R As) : (loadVar T ⟨b, off, none⟩).run P w = .ok v w := by
 have hc := h.cells hs 0 v rfl
 simp only [Nat.add_zero] at hc
 simp [loadVar, hT.run_isAgg, hc]

/-! ## Stores -/

theorem storeCells_run (vs : List Value) : ∀ (w : World) (b off i : Nat) (cs : List Value) (T : TypeId), w.heap[b]? = some (.cells ⟨cs⟩ T (0, 0)) → off + i + vs.length ≤ cs.length → ones vs = true →
  ∃ w', (storeCells ⟨b, off, none⟩ vs i).run P w = .ok () w' ∧ w'.os = w.os ∧ w'.tape = w.tape ∧ w'.output = w.output ∧
   w'.heap[b]? = some (.cells ⟨spl cs (off + i) vs⟩ T (0, 0)) ∧ ∀ k, k ≠ b → w'.heap[k]? = w.heap[k]? := by
 induction vs with
 | nil =>
  intro w b off i cs T hb _ _
  refine ⟨w, by simp [storeCells], rfl, rfl, rfl, ?_, fun _ _ => rfl⟩
  rw [spl_nil]; exact hb
 | cons v vs ih =>
  intro w b off i cs T hb hl ho
  simp only [ones, List.all_cons, Bool.and_eq_true] at ho
  simp only [List.length_cons] at hl
  have hcell : w.cell? ⟨b, off + i, none⟩ = some (cs[off + i]'(by omega)) := by
   have h := cell_of_row w b (off + i) ⟨cs⟩ T (0, 0) hb
   rw [h]; simp
  have hfz : w.frozen? ⟨b, off + i, none⟩ = false := frozen_of_row w b (off + i) _ T hb
  have hset := heap_setCell_same w b (off + i) ⟨cs⟩ T v hb
  have hset' : (w.setCell ⟨b, off + i, none⟩ v).heap[b]? = some (.cells ⟨cs.set (off + i) v⟩ T (0, 0)) := by
   rw [hset]; simp
  obtain ⟨w', h1, h2, h3, h4, h5, h6⟩ := ih (w.setCell ⟨b, off + i, none⟩ v) b off (i + 1) (cs.set (off + i) v) T hset' (by simp; omega) ho.2
  refine ⟨w', ?_, h2, h3, h4, ?_, fun k hk => ?_⟩
  ·simp only [storeCells, Sem.run_bind, Addr.add_mk, run_store _ _ _ _ _ ho.1, hcell, hfz, Bool.false_eq_true, if_false, Result.andThen_ok]
   exact h1
  ·rw [h5]
   have e : off + (i + 1) = off + i + 1 := by omega
   rw [e, spl_step]
  rw [h6 k hk, heap_setCell_other _ _ _ _ hk]

theorem storeVar_run {v : Value} {vs cs : List Value} {T TT : TypeId} {agg : Bool} {b off : Nat} {w : World} (hT : Ty P T agg vs.length) (hv : v.cells = vs.toArray) (ho : ones vs = true)
  (hb : w.heap[b]? = some (.cells ⟨cs⟩ TT (0, 0))) (hl : off + vs.length ≤ cs.length) :
  ∃ w', (storeVar T ⟨b, off, none⟩ v).run P w = .ok () w' ∧ w'.os = w.os ∧ w'.tape = w.tape ∧ w'.output = w.output ∧
   w'.heap[b]? = some (.cells ⟨spl cs off vs⟩ TT (0, 0)) ∧ ∀ k, k ≠ b → w'.heap[k]? = w.heap[k]? := by
 obtain ⟨w', h1, h2, h3, h4, h5, h6⟩ := storeCells_run (P := P) vs w b off 0 cs TT hb (by omega) ho
 refine ⟨w', ?_, h2, h3, h4, by simpa using h5, h6⟩
 simp [storeVar, hv, hT.run_sizeOf, h1]
end

/-! ## The rules -/

section
variable {P : Program} {ops : Array Oper} {Q : Exit → Act → World → Prop} {N : Nat} {F : List (Nat × Value)} {E : Env} {R : Frag} {As As' : List Ent}
variable {d : Nat} {ty : TypeId} {pos : String} {af : Array Edge} {l : List Oper} {x y : Operand} {v u : Value} {T : TypeId}

theorem HL_move (hd : Nat.blt d N = true) (hx : ev F x = some v) (k : HL P ops Q N ((d, v) :: F) E R As l) :
  HL P ops Q N F E R As (⟨some d, .move x, ty, pos, af, none⟩ :: l) :=
 HL_same hd (fun a w ha _ => by simp [execOp, ha.eval hx]) k
theorem HL_assign (hd : Nat.blt d N = true) (hx : ev F x = some v) (k : HL P ops Q N ((d, v) :: F) E R As l) :
  HL P ops Q N F E R As (⟨some d, .assign x, ty, pos, af, none⟩ :: l) :=
 HL_same hd (fun a w ha _ => by simp [execOp, ha.eval hx]) k
theorem HL_pick {c : Operand} {b : Bool} (hd : Nat.blt d N = true) (hc : ev F c = some (.bool b)) (hx : ev F (bif b then x else y) = some v) (k : HL P ops Q N ((d, v) :: F) E R As l) :
  HL P ops Q N F E R As (⟨some d, .pick c x y, ty, pos, af, none⟩ :: l) :=
 HL_same hd (fun a w ha _ => by
  have := ha.eval hx
  simp only [execOp, ha.eval hc]
  cases b <;> simp_all [asBool]) k

theorem HL_alloc {zs : List Value} {z : Value} (hd : Nat.blt d N = true) (hT : TyZ P T z) (hz : z.cells = zs.toArray)
  (k : ∀ b, HL P ops Q N ((d, .pointer (some ⟨b, 0, none⟩)) :: F) E R (blk b zs T :: As) l) :
  HL P ops Q N F E R As (⟨some d, .alloc T, ty, pos, af, none⟩ :: l) := fun a w ha hs => by
 refine wp_value rfl (v := .pointer (some ⟨w.heap.size, 0, none⟩)) (w' := { w with heap := w.heap.push (.cells zs.toArray T (0, 0)) }) ?_ (k w.heap.size _ _ (ha.put hd) (hs.push _))
 simp [execOp, Instr.alloc, hT.run_zero, newVar, newRow, hz]

theorem HL_box {vs : List Value} (hd : Nat.blt d N = true) (hx : ev F x = some v) (hz : v.cells = vs.toArray)
  (k : ∀ b, HL P ops Q N ((d, .pointer (some ⟨b, 0, none⟩)) :: F) E R (blk b vs T :: As) l) :
  HL P ops Q N F E R As (⟨some d, .box T x, ty, pos, af, none⟩ :: l) := fun a w ha hs => by
 refine wp_value rfl (v := .pointer (some ⟨w.heap.size, 0, none⟩)) (w' := { w with heap := w.heap.push (.cells vs.toArray T (0, 0)) }) ?_ (k w.heap.size _ _ (ha.put hd) (hs.push _))
 simp [execOp, Instr.box, ha.eval hx, newVar, newRow, hz]

theorem HL_load_agg {b off n : Nat} {vs : List Value} (hd : Nat.blt d N = true) (hT : Ty P T true n) (hx : ev F x = some (.pointer (some ⟨b, off, none⟩))) (hr : Rd As R b off n vs)
  (k : HL P ops Q N ((d, .agg vs.toArray) :: F) E R As l) : HL P ops Q N F E R As (⟨some d, .load T x, ty, pos, af, none⟩ :: l) :=
 HL_same hd (fun a w ha hs => by simp [execOp, Instr.loadAt, Instr.sureAddr, ha.eval hx, run_loadVar_agg hT hr hs]) k
theorem HL_load_one {b off n : Nat} (hd : Nat.blt d N = true) (hT : Ty P T false n) (hx : ev F x = some (.pointer (some ⟨b, off, none⟩))) (hr : Rd As R b off 1 [v])
  (k : HL P ops Q N ((d, v) :: F) E R As l) : HL P ops Q N F E R As (⟨some d, .load T x, ty, pos, af, none⟩ :: l) :=
 HL_same hd (fun a w ha hs => by simp [execOp, Instr.loadAt, Instr.sureAddr, ha.eval hx, run_loadVar_one hT hr hs]) k

theorem HL_store {b off : Nat} {vs cs : List Value} {agg : Bool} {TT : TypeId} (hT : Ty P T agg vs.length) (hx : ev F x = some (.pointer (some ⟨b, off, none⟩))) (hy : ev F y = some v)
  (hv : v.cells = vs.toArray) (ho : ones vs = true) (hs : Sel As (blk b cs TT) (blk b (spl cs off vs) TT) As') (hl : Nat.ble (off + vs.length) cs.length = true)
  (k : HL P ops Q N F E R As' l) : HL P ops Q N F E R As (⟨none, .store T x y, ty, pos, af, none⟩ :: l) :=
 HL_none (fun a w ha hst => by
  obtain ⟨w', h1, h2, h3, h4, h5, h6⟩ := storeVar_run (P := P) (w := w) (off := off) hT hv ho (hst.own b _ hs.mem) (by simpa using hl)
  refine ⟨w', ?_, hst.turn hs h2 h3 h4 h5 h6⟩
  simp [execOp, Instr.storeAt, Instr.sureAddr, ha.eval hx, ha.eval hy, h1]) k

theorem HL_fieldAddr {b off f fo : Nat} (hd : Nat.blt d N = true) (hf : Fld P T f fo) (hx : ev F x = some (.pointer (some ⟨b, off, none⟩)))
  (k : HL P ops Q N ((d, .pointer (some ⟨b, off + fo, none⟩)) :: F) E R As l) : HL P ops Q N F E R As (⟨some d, .fieldAddr T x f, ty, pos, af, none⟩ :: l) :=
 HL_same hd (fun a w ha hs => by
  obtain ⟨fs, fd, i, h1, h2, rfl, h3, h4⟩ := hf
  simp [execOp, Instr.fieldAt, Instr.sureAddr, ha.eval hx, run_underlying' h1, h2, fieldPlace, sizeOf, typeInfo, h3, h4, Addr.add_mk]) k

theorem HL_indexAddr {b off n cap e j : Nat} {te : TypeId} {kd : IntKind} {agg : Bool} (hd : Nat.blt d N = true) (hT : P.underlying T = some (.slice te)) (he : Ty P te agg e)
  (hx : ev F x = some (.slice (some ⟨b, off, none⟩) n cap)) (hy : ev F y = some (.int kd (j : Int))) (hj : j < n)
  (k : HL P ops Q N ((d, .pointer (some ⟨b, off + j * e, none⟩)) :: F) E R As l) : HL P ops Q N F E R As (⟨some d, .indexAddr T x y, ty, pos, af, none⟩ :: l) :=
 HL_same hd (fun a w ha hs => by
  simp [execOp, Instr.indexAt, asIntOf, ha.eval hx, ha.eval hy, run_underlying' hT, hj, he.run_sizeOf, Addr.add_mk]) k

/-- Indexing an array behind an address. -/
theorem HL_indexAddr_arr {b off n e j : Nat} {te : TypeId} {kd : IntKind} {agg : Bool} (hd : Nat.blt d N = true) (hT : P.underlying T = some (.array n te)) (he : Ty P te agg e)
  (hx : ev F x = some (.pointer (some ⟨b, off, none⟩))) (hy : ev F y = some (.int kd (j : Int))) (hj : j < n)
  (k : HL P ops Q N ((d, .pointer (some ⟨b, off + j * e, none⟩)) :: F) E R As l) : HL P ops Q N F E R As (⟨some d, .indexAddr T x y, ty, pos, af, none⟩ :: l) :=
 HL_same hd (fun a w ha hs => by
  simp [execOp, Instr.indexAt, asIntOf, Instr.sureAddr, ha.eval hx, ha.eval hy, run_underlying' hT, hj, he.run_sizeOf, Addr.add_mk]) k

theorem HL_extract {vs : List Value} {i : Nat} (hd : Nat.blt d N = true) (hx : ev F x = some (.tuple vs.toArray)) (hv : vs[i]? = some v)
  (k : HL P ops Q N ((d, v) :: F) E R As l) : HL P ops Q N F E R As (⟨some d, .extract x i, ty, pos, af, none⟩ :: l) :=
 HL_same hd (fun a w ha hs => by simp [execOp, Instr.extract, ha.eval hx, hv]) k

theorem HL_nilCheck {a' : Addr} (hd : Nat.blt d N = true) (hx : ev F x = some (.pointer (some a')))
  (k : HL P ops Q N ((d, .pointer (some a')) :: F) E R As l) : HL P ops Q N F E R As (⟨some d, .nilCheck x, ty, pos, af, none⟩ :: l) :=
 HL_same hd (fun a w ha hs => by simp [execOp, ha.eval hx]) k

theorem HL_bin {op : BinOp} {yT : TypeId} {r : Value} {vx vy : Value} (hd : Nat.blt d N = true) (hx : ev F x = some vx) (hy : ev F y = some vy)
  (hr : ∀ w, (do eqGuard op T x y vx vy; binOp op T vx vy : Sem Value).run P w = .ok r w) (k : HL P ops Q N ((d, r) :: F) E R As l) :
  HL P ops Q N F E R As (⟨some d, .binOp op T x y yT, ty, pos, af, none⟩ :: l) :=
 HL_same hd (fun a w ha hs => by
  have h1 := hr w
  show Sem.run P (do let r ← (do eqGuard op T x y (a.eval x) (a.eval y); binOp op T (a.eval x) (a.eval y)); pure (Next.value r)) w = _
  rw [ha.eval hx, ha.eval hy, Sem.run_bind, h1]
  rfl) k

theorem HL_add {yT : TypeId} {a b : Int} (hd : Nat.blt d N = true) (hx : ev F x = some (.int .i64 a)) (hy : ev F y = some (.int .i64 b))
  (h1 : -9223372036854775808 ≤ a + b) (h2 : a + b ≤ 9223372036854775807) (k : HL P ops Q N ((d, .int .i64 (a + b)) :: F) E R As l) :
  HL P ops Q N F E R As (⟨some d, .binOp .add T x y yT, ty, pos, af, none⟩ :: l) :=
 HL_bin hd hx hy (fun w => by simp [eqGuard, binOp, Op.intArith, IntWalk.i64_in _ ⟨h1, h2⟩]) k
theorem HL_sub' {yT : TypeId} {a b : Int} (hd : Nat.blt d N = true) (hx : ev F x = some (.int .i64 a)) (hy : ev F y = some (.int .i64 b))
  (h1 : -9223372036854775808 ≤ a - b) (h2 : a - b ≤ 9223372036854775807) (k : HL P ops Q N ((d, .int .i64 (a - b)) :: F) E R As l) :
  HL P ops Q N F E R As (⟨some d, .binOp .sub T x y yT, ty, pos, af, none⟩ :: l) :=
 HL_bin hd hx hy (fun w => by simp [eqGuard, binOp, Op.intArith, IntWalk.i64_in _ ⟨h1, h2⟩]) k

theorem HL_lss {yT : TypeId} {kd : IntKind} {a b : Int} (hd : Nat.blt d N = true) (hx : ev F x = some (.int kd a)) (hy : ev F y = some (.int kd b))
  (k : HL P ops Q N ((d, .bool (decide (a < b))) :: F) E R As l) : HL P ops Q N F E R As (⟨some d, .binOp .lss T x y yT, ty, pos, af, none⟩ :: l) :=
 HL_bin hd hx hy (fun w => by simp [eqGuard, binOp, Op.intCmp]) k
theorem HL_leq {yT : TypeId} {kd : IntKind} {a b : Int} (hd : Nat.blt d N = true) (hx : ev F x = some (.int kd a)) (hy : ev F y = some (.int kd b))
  (k : HL P ops Q N ((d, .bool (decide (a ≤ b))) :: F) E R As l) : HL P ops Q N F E R As (⟨some d, .binOp .leq T x y yT, ty, pos, af, none⟩ :: l) :=
 HL_bin hd hx hy (fun w => by simp [eqGuard, binOp, Op.intCmp]) k
theorem HL_gtr {yT : TypeId} {kd : IntKind} {a b : Int} (hd : Nat.blt d N = true) (hx : ev F x = some (.int kd a)) (hy : ev F y = some (.int kd b))
  (k : HL P ops Q N ((d, .bool (decide (b < a))) :: F) E R As l) : HL P ops Q N F E R As (⟨some d, .binOp .gtr T x y yT, ty, pos, af, none⟩ :: l) :=
 HL_bin hd hx hy (fun w => by simp [eqGuard, binOp, Op.intCmp]) k
theorem HL_geq {yT : TypeId} {kd : IntKind} {a b : Int} (hd : Nat.blt d N = true) (hx : ev F x = some (.int kd a)) (hy : ev F y = some (.int kd b))
  (k : HL P ops Q N ((d, .bool (decide (b ≤ a))) :: F) E R As l) : HL P ops Q N F E R As (⟨some d, .binOp .geq T x y yT, ty, pos, af, none⟩ :: l) :=
 HL_bin hd hx hy (fun w => by simp [eqGuard, binOp, Op.intCmp]) k
theorem HL_eql_int {yT : TypeId} {kd : IntKind} {a b : Int} (hd : Nat.blt d N = true) (hx : ev F x = some (.int kd a)) (hy : ev F y = some (.int kd b))
  (k : HL P ops Q N ((d, .bool (a == b)) :: F) E R As l) : HL P ops Q N F E R As (⟨some d, .binOp .eql T x y yT, ty, pos, af, none⟩ :: l) :=
 HL_bin hd hx hy (fun w => by simp [eqGuard, binOp, Op.intCmp]) k
theorem HL_neq_int {yT : TypeId} {kd : IntKind} {a b : Int} (hd : Nat.blt d N = true) (hx : ev F x = some (.int kd a)) (hy : ev F y = some (.int kd b))
  (k : HL P ops Q N ((d, .bool (a != b)) :: F) E R As l) : HL P ops Q N F E R As (⟨some d, .binOp .neq T x y yT, ty, pos, af, none⟩ :: l) :=
 HL_bin hd hx hy (fun w => by simp [eqGuard, binOp, Op.intCmp]) k
theorem HL_not {b : Bool} (hd : Nat.blt d N = true) (hx : ev F x = some (.bool b))
  (k : HL P ops Q N ((d, .bool (!b)) :: F) E R As l) : HL P ops Q N F E R As (⟨some d, .unOp .not T x, ty, pos, af, none⟩ :: l) :=
 HL_same hd (fun a w ha hs => by simp [execOp, Op.unary, ha.eval hx]) k

/-! ### len, cap -/
theorem HL_len_slice {n cap : Nat} {ba : Option Addr} {te t : TypeId} (hd : Nat.blt d N = true) (hT : P.underlying t = some (.slice te)) (hx : ev F x = some (.slice ba n cap))
  (k : HL P ops Q N ((d, .int .i64 (n : Int)) :: F) E R As l) : HL P ops Q N F E R As (⟨some d, .call ⟨.builtin .len, #[x], #[t]⟩, ty, pos, af, none⟩ :: l) :=
 HL_same hd (fun a w ha hs => by simp [execOp, resolve, invoke, builtin, Builtin.len_, run_underlying' hT, ha.eval hx, goInt]) k
theorem HL_len_string {s : ByteArray} {t : TypeId} (hd : Nat.blt d N = true) (hT : P.underlying t = some .string) (hx : ev F x = some (.string s))
  (k : HL P ops Q N ((d, .int .i64 (s.size : Int)) :: F) E R As l) : HL P ops Q N F E R As (⟨some d, .call ⟨.builtin .len, #[x], #[t]⟩, ty, pos, af, none⟩ :: l) :=
 HL_same hd (fun a w ha hs => by simp [execOp, resolve, invoke, builtin, Builtin.len_, run_underlying' hT, ha.eval hx, goInt]) k
theorem HL_cap_slice {n cap : Nat} {ba : Option Addr} {te t : TypeId} (hd : Nat.blt d N = true) (hT : P.underlying t = some (.slice te)) (hx : ev F x = some (.slice ba n cap))
  (k : HL P ops Q N ((d, .int .i64 (cap : Int)) :: F) E R As l) : HL P ops Q N F E R As (⟨some d, .call ⟨.builtin .cap, #[x], #[t]⟩, ty, pos, af, none⟩ :: l) :=
 HL_same hd (fun a w ha hs => by simp [execOp, resolve, invoke, builtin, Builtin.cap_, run_underlying' hT, ha.eval hx, goInt]) k

theorem HL_makeInterface {D : TypeDesc} (hd : Nat.blt d N = true) (hT : P.underlying T = some D) (hD : ∀ ms, D ≠ .interface ms) (hx : ev F x = some v)
  (k : HL P ops Q N ((d, .iface T v) :: F) E R As l) : HL P ops Q N F E R As (⟨some d, .makeInterface T x, ty, pos, af, none⟩ :: l) :=
 HL_same hd (fun a w ha hs => by
  cases D <;> simp_all [execOp, Instr.makeInterface, run_underlying' hT, ha.eval hx]) k

theorem HL_makeFunc {fn : Fn} {xs ys : List Operand} {vs us : List Value} (hd : Nat.blt d N = true) (hx : evs F xs = some vs) (hy : evs F ys = some us)
  (k : HL P ops Q N ((d, .func fn vs.toArray us.toArray) :: F) E R As l) : HL P ops Q N F E R As (⟨some d, .makeFunc fn xs.toArray ys.toArray, ty, pos, af, none⟩ :: l) :=
 HL_same hd (fun a w ha hs => by simp [execOp, Instr.makeFunc, ha.evals hx, ha.evals hy]) k
end
end Go.Sx
namespace Go.Sx
open Go
theorem Ty.of {P : Program} {T : TypeId} {D : TypeDesc} {agg : Bool} {n : Nat} (h : P.underlying T = some D) (ha : aggD D = agg) (hi : (P.info? T).map (·.size) = some n) : Ty P T agg n := by
 refine ⟨⟨D, h, ha⟩, ?_⟩
 cases hq : P.info? T with
 | none => simp [hq] at hi
 | some i => exact ⟨i, rfl, by simpa [hq] using hi⟩
theorem TyZ.of {P : Program} {T : TypeId} {z : Value} (hi : (P.info? T).bind (·.zero) = some z) : TyZ P T z := by
 cases hq : P.info? T with
 | none => simp [hq] at hi
 | some i => exact ⟨i, hq, by simpa [hq] using hi⟩
theorem TyB.of {P : Program} {T : TypeId} {n : Nat} (hi : (P.info? T).map (·.bytes) = some n) : TyB P T n := by
 cases hq : P.info? T with
 | none => simp [hq] at hi
 | some i => exact ⟨i, hq, by simpa [hq] using hi⟩
def fldOf (P : Program) (T : TypeId) (f : Nat) : Option (Nat × Bool) :=
 match P.underlying T with
 | some (.struct fs) => match fs[f]? with
  | some fd => match P.info? fd.type with
   | some i => some (fd.offset, Nat.beq i.size 0)
   | none => none
  | none => none
 | _ => none
theorem Fld.of {P : Program} {T : TypeId} {f off : Nat} (h : fldOf P T f = some (off, false)) : Fld P T f off := by
 unfold fldOf at h
 split at h
 ·rename_i fs hfs
  split at h
  ·rename_i fd hfd
   split at h
   ·rename_i i hi
    simp only [Option.some.injEq, Prod.mk.injEq] at h
    refine ⟨fs, fd, i, hfs, hfd, h.1, hi, fun e => by rw [e] at h; simp at h⟩
   cases h
  cases h
 cases h
theorem IsFn.of {P : Program} {f : FuncId} {fn : Func} (h : P.funcs[f]? = some fn) (h1 : (fn.name == "runtime.NumGoroutine") = false) (h2 : fn.body.isNone = false) : IsFn P f := ⟨fn, h, h1, h2⟩
end Go.Sx

/-! More rules of the logic: results, cuts, comparisons, interfaces, append, strings. Generic: no program is named. -/
namespace Go.Sx
open Go Go.RowKit

section
variable {P : Program} {ops : Array Oper} {Q : Exit → Act → World → Prop} {N : Nat} {F : List (Nat × Value)} {E : Env} {R : Frag} {As As' : List Ent}
variable {d : Nat} {ty : TypeId} {pos : String} {af : Array Edge} {l : List Oper} {x y : Operand} {v u : Value} {T : TypeId}

/-! ### A cut between two pieces of code -/
def MidK (Mid : List (Nat × Value) → Frag → List Ent → Prop) (N : Nat) (E : Env) (a : Act) (w : World) : Prop :=
 ∃ F R As, Mid F R As ∧ Fr a N F ∧ St E w R As

theorem HC_seq_cut {c d : Code} (Mid : List (Nat × Value) → Frag → List Ent → Prop) (h1 : HC P (Exit.then (MidK Mid N E) Q) N F E R As c)
  (h2 : ∀ F R As, Mid F R As → HC P Q N F E R As d) : HC P Q N F E R As (.seq c d) := fun a w ha hs =>
 wp_seq (Code.wp_mono (fun e a w q => by
  cases e with
  | normal =>
   obtain ⟨F', R', As', hm, hf, hst⟩ := q
   exact h2 F' R' As' hm a w hf hst
  | _ => exact q) (h1 a w ha hs))
theorem HQ_cut {Mid : List (Nat × Value) → Frag → List Ent → Prop} (F₀ : List (Nat × Value)) (As₀ : List Ent) (hsub : Sub F F₀) (hperm : As.Perm As₀) (h : Mid F₀ R As₀) :
  HQ (Exit.then (MidK Mid N E) Q) N F E R As .normal := fun _ _ ha hs => ⟨F₀, R, As₀, h, ha.sub hsub, hs.perm hperm⟩

/-! ### Results -/
theorem HQ_ret_cell {fn : Func} {Rp : Ending → World → Prop} {e : Exit} {t n b off : Nat} {vs : List Value} (he : e = .ret ∨ e = .normal) (hres : fn.results = #[.cell t T])
  (ht : lk F t = some (.pointer (some ⟨b, off, none⟩))) (hT : Ty P T true n) (hr : Rd As R b off n vs)
  (h : ∀ w, St E w R As → Rp (.returned (.agg vs.toArray)) w) : HQ (bodyPost P fn Rp) N F E R As e :=
 HQ_ret he _ (fun a w ha hs => by
  simp [results, hres, ha.look t _ ht, asAddr, run_loadVar_agg hT hr hs]) h
theorem run_results_none {fn : Func} (hres : fn.results = #[]) (a : Act) (w : World) : (results fn a.tmps).run P w = .ok (.tuple #[]) w := by
 simp [results, hres]

inductive ResL (P : Program) (F : List (Nat × Value)) (R : Frag) (As : List Ent) : List ResultVar → List Value → Prop
 | nil : ResL P F R As [] []
 | tmp {t v rs vs} : lk F t = some v → ResL P F R As rs vs → ResL P F R As (.tmp t :: rs) (v :: vs)
 | cell {t b off n : Nat} {T : TypeId} {us vs : List Value} {rs} : lk F t = some (.pointer (some ⟨b, off, none⟩)) → Ty P T true n → Rd As R b off n us → ResL P F R As rs vs →
   ResL P F R As (.cell t T :: rs) (.agg us.toArray :: vs)

def rv (tmps : Array Value) : ResultVar → Sem Value
 | .tmp t => pure (tmps.getD t undef)
 | .cell a t => do loadVar t (← asAddr (tmps.getD a undef))

theorem results_rv (fn : Func) (tmps : Array Value) : results fn tmps = (do let vs ← fn.results.mapM (rv tmps); pure (if h : vs.size = 1 then vs[0] else .tuple vs)) := by
 unfold results
 congr 2

theorem ResL.run {rs vs} (h : ResL P F R As rs vs) {a : Act} {w : World} (ha : Fr a N F) (hs : St E w R As) : (rs.mapM (rv a.tmps)).run P w = .ok vs w := by
 induction h with
 | nil => rfl
 | tmp ht _ ih =>
  rw [List.mapM_cons, Sem.run_bind, rv]
  simp only [Sem.run_pure, Result.andThen_ok, Sem.run_bind, ih]
  simp [ha.look _ _ ht]
 | @cell t b off n T us vs rs ht hT hr _ ih =>
  rw [List.mapM_cons, Sem.run_bind, rv, Sem.run_bind]
  have : a.tmps.getD t undef = .pointer (some ⟨b, off, none⟩) := by
   rw [Array.getD_eq_getD_getElem?, ha.look _ _ ht]; rfl
  rw [this]
  simp only [asAddr, Sem.run_pure, Result.andThen_ok, Sem.run_bind, run_loadVar_agg hT hr hs, ih]

theorem run_results_list {fn : Func} {rs : List ResultVar} {vs : List Value} (hres : fn.results = rs.toArray) (h : ResL P F R As rs vs) (hl : vs.length ≠ 1) {a : Act} {w : World} (ha : Fr a N F) (hs : St E w R As) :
  (results fn a.tmps).run P w = .ok (.tuple vs.toArray) w := by
 have := h.run (a := a) (w := w) ha hs
 simp only [results_rv, hres, List.mapM_toArray, Sem.run_bind, Sem.run_map]
 rw [this]
 simp [hl]

/-! ### Comparisons -/
theorem HL_eql_bool {yT : TypeId} {a b : Bool} (hT : P.underlying T = some .bool) (hd : Nat.blt d N = true) (hx : ev F x = some (.bool a)) (hy : ev F y = some (.bool b))
  (k : HL P ops Q N ((d, .bool (a == b)) :: F) E R As l) : HL P ops Q N F E R As (⟨some d, .binOp .eql T x y yT, ty, pos, af, none⟩ :: l) :=
 HL_bin hd hx hy (fun w => by simp [eqGuard, run_eql_bool w T a b hT]) k
theorem run_equalIn_ptr_none {t te : TypeId} (dp : Nat) (hT : P.underlying t = some (.pointer te)) (a : Addr) (w : World) : (Op.equalIn (dp + 1) t (.pointer (some a)) (.pointer none)).run P w = .ok false w := by
 simp [Op.equalIn, run_underlying' hT]
theorem run_equal_ptr_none {t te : TypeId} (hT : P.underlying t = some (.pointer te)) (a : Addr) (w : World) : (Op.equal t (.pointer (some a)) (.pointer none)).run P w = .ok false w :=
 run_equalIn_ptr_none 9999 hT a w
theorem run_eql_ptr_none {t te : TypeId} (hT : P.underlying t = some (.pointer te)) (a : Addr) (w : World) : (binOp .eql t (.pointer (some a)) (.pointer none)).run P w = .ok (.bool false) w := by
 simp only [binOp]; simp [run_equal_ptr_none hT]
/-- A pointer, not nil, against nil. -/
theorem HL_eql_ptr {yT te : TypeId} {a : Addr} (hT : P.underlying T = some (.pointer te)) (hd : Nat.blt d N = true) (hx : ev F x = some (.pointer (some a))) (hy : ev F y = some (.pointer none))
  (k : HL P ops Q N ((d, .bool false) :: F) E R As l) : HL P ops Q N F E R As (⟨some d, .binOp .eql T x y yT, ty, pos, af, none⟩ :: l) :=
 HL_bin hd hx hy (fun w => by simp [eqGuard, run_eql_ptr_none hT]) k
end
end Go.Sx
namespace Go.Sx
open Go
/-- 'As' is what is left of 'L' when some of its first entries are let go. -/
inductive Tail : List Ent → List Ent → Prop
 | refl {l} : Tail l l
 | cons {e l As} : Tail l As → Tail (e :: l) As
theorem St.tail {E : Env} {w : World} {R : Frag} {L As : List Ent} (h : St E w R L) (ht : Tail L As) : St E w R As := by
 induction ht with
 | refl => exact h
 | cons _ ih => exact ih (h.drop .here)
/-- A call that computes: it leaves what is owned as it was, and what stays grows. -/
def Pure (P : Program) (f : FuncId) (vs : List Value) (R : Frag) (Res : Frag → Value → Prop) : Prop :=
 ∀ E As, Tri P f vs E R As fun v R' As' => As' = As ∧ Frag.le R R' ∧ Res R' v
theorem ret_pure {E : Env} {w : World} {R₀ R : Frag} {L As : List Ent} {v : Value} {Res : Frag → Value → Prop} (hs : St E w R L) (ht : Tail L As) (hle : Frag.le R₀ R) (hr : Res R v) :
  ∃ v' R' As', Ending.returned v = Ending.returned v' ∧ St E w R' As' ∧ As' = As ∧ Frag.le R₀ R' ∧ Res R' v' := ⟨v, R, As, rfl, hs.tail ht, rfl, hle, hr⟩
end Go.Sx

/-! A statement whose order Go leaves open: its operations but the last ones in any order, the last ones in theirs. Generic: no program is named. -/
namespace Go.Sx
open Go Go.RowKit

/-- The operations that come ahead of operation 'j', as far as 'n' edges lead. -/
def anc (ops : Array Oper) : Nat → Nat → List Nat
 | 0, _ => []
 | n + 1, j => match ops[j]? with
  | none => []
  | some o => (o.after.toList.filter (Region.binds .any)).flatMap fun e => e.on :: anc ops n e.on

/-- Operations that neither read nor write memory. -/
def softOp (o : Oper) : Bool := o.guard.isNone && match o.op with | .move _ => true | .assign _ => true | .extract _ _ => true | _ => false
/-- The first j operations are listed. -/
def upTo (n j : Nat) : Array Bool := ((List.range n).map fun i => Nat.blt i j).toArray
/-- Where the first j are listed, operation j may be taken. -/
def softAt (ops : Array Oper) (j : Nat) : Bool := match ops[j]? with
 | none => false
 | some o => softOp o && Region.noSelect ops && Region.free .any ops (upTo ops.size j) j && (Region.ready .any ops (upTo ops.size j)).contains j
/-- The first k operations but one. -/
def allBut (n k i : Nat) : Array Bool := ((List.range n).map fun m => Nat.blt m k && !Nat.beq m i).toArray
/-- Where the first k are listed but operation i, it may be taken. -/
def lateAt (ops : Array Oper) (k i : Nat) : Bool := match ops[i]? with
 | none => false
 | some o => softOp o && Region.noSelect ops && Region.free .any ops (allBut ops.size k i) i && (Region.ready .any ops (allBut ops.size k i)).contains i
/-- All from k on come behind operation i. -/
def aheadAll (ops : Array Oper) (k n i : Nat) : Bool := (List.range ops.size).all fun j => Nat.blt j k || (anc ops n j).contains i
/-- Edges lead back; from operation k on each one comes behind the first k (but for one that may be late), and is ahead of all behind it, or may be taken in its place. -/
def drawOk (ops : Array Oper) (pre : List Nat) (k n : Nat) : Bool :=
 (List.range ops.size).all (fun j => match ops[j]? with
  | none => true
  | some o => o.after.toList.all fun e => !Region.binds .any e || Nat.blt e.on j) &&
 (List.range k).all (fun i => pre.contains i || aheadAll ops k n i || (lateAt ops k i && (List.range k).all fun m => Nat.beq m i || pre.contains m || aheadAll ops k n m)) &&
 (List.range ops.size).all (fun j => Nat.blt j k || softAt ops j || (List.range ops.size).all fun i => Nat.ble i j || (anc ops n i).contains j)

/-- Each operation of the first part hands back a value in a temporary of its own. -/
def dsts : List Oper → Option (List Nat)
 | [] => some []
 | o :: t => match o.dst, dsts t with
  | some d, some ds => some (d :: ds)
  | _, _ => none

def dstOf (ops : Array Oper) (j : Nat) : Nat := ((ops[j]?).bind (·.dst)).getD 0

/-- Values of some operations, each with what is known of it. -/
def DepS {σ : Type} (V : Nat → σ → Value → Prop) (ops : Array Oper) (R : σ) : List Nat → (List (Nat × Value) → Prop) → Prop
 | [], k => k []
 | i :: t, k => ∀ v, V i R v → DepS V ops R t fun L => k ((dstOf ops i, v) :: L)
abbrev Dep (V : Nat → Frag → Value → Prop) (ops : Array Oper) (R : Frag) (is : List Nat) (k : List (Nat × Value) → Prop) : Prop := DepS V ops R is k

/-- What an operation of the first part ends in. -/
def DQS {σ : Type} (N : Nat) (le : σ → σ → Prop) (S0 : σ → World → Prop) (R : σ) (d : Nat) (V : σ → Value → Prop) (G : List (Nat × Value)) : Exit → Act → World → Prop
 | .normal, a, w => ∃ v R', le R R' ∧ V R' v ∧ Fr a N ((d, v) :: G) ∧ S0 R' w
 | _, _, _ => False
abbrev DQ (N : Nat) (E : Env) (R : Frag) (As : List Ent) (d : Nat) (V : Frag → Value → Prop) (G : List (Nat × Value)) : Exit → Act → World → Prop := DQS N Frag.le (fun R w => St E w R As) R d V G

section
variable {P : Program} {ops : Array Oper} {Q : Exit → Act → World → Prop} {N : Nat} {F : List (Nat × Value)} {E : Env} {R : Frag} {As As' : List Ent}

theorem lk_append (F G : List (Nat × Value)) (i : Nat) : lk (F ++ G) i = (lk F i).or (lk G i) := by
 induction F with
 | nil => simp [lk]
 | cons p t ih =>
  obtain ⟨k, v⟩ := p
  simp only [List.cons_append, lk]
  cases Nat.beq k i <;> simp [ih]

theorem DepS.use {σ : Type} {V : Nat → σ → Value → Prop} {R : σ} {is : List Nat} {k : List (Nat × Value) → Prop} (h : DepS V ops R is k) (val : Nat → Value) (hv : ∀ i ∈ is, V i R (val i)) :
  k (is.map fun i => (dstOf ops i, val i)) := by
 induction is generalizing k with
 | nil => exact h
 | cons i t ih => exact ih (h (val i) (hv i (by simp))) (fun j hj => hv j (by simp [hj]))

theorem lk_map_get (is : List Nat) (val : Nat → Value) (hinj : ∀ i ∈ is, ∀ j ∈ is, dstOf ops i = dstOf ops j → i = j) (d : Nat) (v : Value)
  (h : lk (is.map fun i => (dstOf ops i, val i)) d = some v) : ∃ i ∈ is, dstOf ops i = d ∧ val i = v := by
 induction is with
 | nil => cases h
 | cons i t ih =>
  simp only [List.map_cons, lk] at h
  cases hb : Nat.beq (dstOf ops i) d with
  | true =>
   rw [hb] at h
   simp only [cond_true, Option.some.injEq] at h
   exact ⟨i, by simp, Nat.eq_of_beq_eq_true hb, h⟩
  | false =>
   rw [hb] at h
   obtain ⟨j, hj, h1, h2⟩ := ih (fun a ha b hb => hinj a (by simp [ha]) b (by simp [hb])) h
   exact ⟨j, by simp [hj], h1, h2⟩

theorem lk_map_mem (is : List Nat) (val : Nat → Value) (hinj : ∀ i ∈ is, ∀ j ∈ is, dstOf ops i = dstOf ops j → i = j) (i : Nat) (hi : i ∈ is) :
  lk (is.map fun i => (dstOf ops i, val i)) (dstOf ops i) = some (val i) := by
 induction is with
 | nil => cases hi
 | cons x t ih =>
  simp only [List.map_cons, lk]
  cases hb : Nat.beq (dstOf ops x) (dstOf ops i) with
  | true =>
   have : x = i := hinj x (by simp) i hi (Nat.eq_of_beq_eq_true hb)
   subst this
   rfl
  | false =>
   rcases List.mem_cons.1 hi with rfl | hit
   ·simp at hb
   exact ih (fun a ha b hb => hinj a (by simp [ha]) b (by simp [hb])) hit

theorem wp_mono2 {o : Oper} {a : Act} {w : World} {K K' : Act → World → Prop} {Q Q' : Exit → Act → World → Prop} (h : ∀ a w, K a w → K' a w) (hp : ∀ c a w, ¬ Q (.panic c) a w) (hg : ∀ a w, ¬ Q .outgrown a w)
  (hh : o.wp P a w K Q) : o.wp P a w K' Q' := by
 unfold Oper.wp at *
 generalize (execOp a.eval o).run P w = r at *
 cases r with
 | ok n w' =>
  cases n <;> simp only [Oper.upon] at hh ⊢ <;>
   first
    | exact h _ _ hh
    | exact Calls.mono hh (fun e w'' he => by
      cases e with
      | returned v => exact h _ _ he
      | panicked c => exact absurd he (hp _ _ _)
      | outgrown => obtain ⟨a₀, w₀, hq⟩ := he; exact absurd hq (hg _ _))
    | exact Rows.mono hh (fun _ _ he => h _ _ he)
 | halt x w' => cases x <;> simp only [Oper.upon] at hh ⊢ <;> exact absurd hh (hp _ _ _)

theorem ready_iff {listed : Array Bool} {j : Nat} : j ∈ Region.ready .any ops listed ↔
  listed.getD j true = false ∧ ∃ o, ops[j]? = some o ∧ ∀ e ∈ o.after, Region.binds .any e = true → listed.getD e.on false = true := mem_ready

/-- What is listed is closed towards the front. -/
def Closed (ops : Array Oper) (listed : Array Bool) : Prop :=
 listed.size = ops.size ∧ ∀ j, listed.getD j false = true → ∀ o, ops[j]? = some o → ∀ e ∈ o.after, Region.binds .any e = true → listed.getD e.on false = true

theorem Closed.anc {listed : Array Bool} (h : Closed ops listed) : ∀ (n j : Nat), (∀ o, ops[j]? = some o → ∀ e ∈ o.after, Region.binds .any e = true → listed.getD e.on false = true) →
  ∀ i ∈ anc ops n j, listed.getD i false = true := by
 intro n
 induction n with
 | zero => intro j _ i hi; cases hi
 | succ n ih =>
  intro j hj i hi
  unfold Sx.anc at hi
  split at hi
  ·cases hi
  rename_i o ho
  obtain ⟨e, he, hi⟩ := List.mem_flatMap.1 hi
  obtain ⟨he1, he2⟩ := List.mem_filter.1 he
  have h1 := hj o ho e (by simpa using he1) he2
  rcases List.mem_cons.1 hi with rfl | hi
  ·exact h1
  exact ih e.on (fun o' ho' e' he' hb => h.2 e.on h1 o' ho' e' he' hb) i hi

theorem Closed.set {listed : Array Bool} (h : Closed ops listed) {j : Nat} (hj : j ∈ Region.ready .any ops listed) : Closed ops (listed.setIfInBounds j true) := by
 obtain ⟨h0, o, ho, ha⟩ := ready_iff.1 hj
 refine ⟨by simp [h.1], fun i hi o' ho' e he hb => ?_⟩
 refine getD_set_true ?_
 by_cases hij : j = i
 ·subst hij
  rw [ho] at ho'
  injection ho' with ho'
  subst ho'
  exact ha e he hb
 rw [getD_set_ne false hij] at hi
 exact h.2 i hi o' ho' e he hb

theorem drawOk_spec {pre : List Nat} {k n : Nat} (h : drawOk ops pre k n = true) :
  (∀ j o, ops[j]? = some o → ∀ e ∈ o.after, Region.binds .any e = true → e.on < j) ∧
  (∀ i, i < k → i ∈ pre ∨ (∀ j, j < ops.size → k ≤ j → i ∈ anc ops n j) ∨ (lateAt ops k i = true ∧ ∀ m, m < k → m ≠ i → m ∈ pre ∨ ∀ j, j < ops.size → k ≤ j → m ∈ anc ops n j)) ∧
  (∀ j, j < ops.size → k ≤ j → softAt ops j = true ∨ ∀ i, i < ops.size → j < i → j ∈ anc ops n i) := by
 unfold drawOk at h
 rw [Bool.and_eq_true, Bool.and_eq_true] at h
 obtain ⟨⟨h1, h2⟩, h3⟩ := h
 rw [List.all_eq_true] at h1 h2 h3
 refine ⟨?_, ?_, ?_⟩
 ·intro j o ho e he hb
  have hlt : j < ops.size := (Array.getElem?_eq_some_iff.1 ho).1
  have := h1 j (by simpa using hlt)
  rw [ho] at this
  simp only [List.all_eq_true] at this
  have := this e (by simpa using he)
  simpa [hb] using this
 ·have hah : ∀ i, aheadAll ops k n i = true → ∀ j, j < ops.size → k ≤ j → i ∈ anc ops n j := by
   intro i h j hj hk
   unfold aheadAll at h
   rw [List.all_eq_true] at h
   have := h j (by simpa using hj)
   rw [Bool.or_eq_true] at this
   rcases this with h | h
   ·simp at h; omega
   simpa using h
  intro i hi
  have := h2 i (by simpa using hi)
  rw [Bool.or_eq_true, Bool.or_eq_true, Bool.and_eq_true] at this
  rcases this with (h | h) | ⟨h, hm⟩
  ·exact .inl (by simpa using h)
  ·exact .inr (.inl (hah i h))
  refine .inr (.inr ⟨h, fun m hmk hmi => ?_⟩)
  rw [List.all_eq_true] at hm
  have := hm m (by simpa using hmk)
  rw [Bool.or_eq_true, Bool.or_eq_true] at this
  rcases this with (h | h) | h
  ·exact absurd (Nat.eq_of_beq_eq_true h) hmi
  ·exact .inl (by simpa using h)
  exact .inr (hah m h)
 intro j hj hk
 have := h3 j (by simpa using hj)
 rw [Bool.or_eq_true, Bool.or_eq_true] at this
 rcases this with (h | h) | h
 ·simp at h; omega
 ·exact .inl h
 refine .inr fun i hi hij => ?_
 rw [List.all_eq_true] at h
 have := h i (by simpa using hi)
 rw [Bool.or_eq_true] at this
 rcases this with h | h
 ·simp at h; omega
 simpa using h

/-- Where not all is listed, something may come up. -/
theorem ready_ne_nil {listed : Array Bool} (h : Closed ops listed) (hb : ∀ j o, ops[j]? = some o → ∀ e ∈ o.after, Region.binds .any e = true → e.on < j)
  (hex : ∃ j, j < ops.size ∧ listed.getD j true = false) : Region.ready .any ops listed ≠ [] := by
 obtain ⟨j, hj, hl⟩ := hex
 induction j using Nat.strongRecOn with
 | _ j ih =>
  by_cases hall : ∀ e ∈ (ops[j]).after, Region.binds .any e = true → listed.getD e.on false = true
  ·intro hnil
   have : j ∈ Region.ready .any ops listed := ready_iff.2 ⟨hl, ops[j], by simp [hj], hall⟩
   rw [hnil] at this
   cases this
  simp only [Classical.not_forall] at hall
  obtain ⟨e, he, hbe, hn⟩ := hall
  have hlt := hb j ops[j] (by simp [hj]) e he hbe
  refine ih e.on hlt (by omega) ?_
  have hsz : e.on < listed.size := by rw [h.1]; omega
  rw [Array.getD_eq_getD_getElem?] at hn ⊢
  simp [hsz] at hn ⊢
  exact hn

theorem soft_yields {o : Oper} (hs : softOp o = true) {a : Act} {w : World} {rest : List Oper} (hw : wpList P ops Q (o :: rest) a w) :
  ∃ v, Yields P ops o v a ∧ wpList P ops Q rest (a.put o.dst v) w := by
 obtain ⟨dst, op, ty, pos, af, guard⟩ := o
 cases guard with
 | some g => simp [softOp] at hs
 | none =>
  unfold wpList at hw
  rw [if_pos (by simp [Region.wanted])] at hw
  cases op <;> simp [softOp] at hs
  case move x =>
   refine ⟨a.eval x, .inl ⟨by simp [Region.wanted], fun w => by simp [execOp]⟩, ?_⟩
   rcases hw with hw | ⟨h, _⟩
   ·simpa [Oper.wp, execOp, Oper.upon] using hw
   simp [Oper.asks, execOp, Sem.events_pure] at h
  case assign x =>
   refine ⟨a.eval x, .inl ⟨by simp [Region.wanted], fun w => by simp [execOp]⟩, ?_⟩
   rcases hw with hw | ⟨h, _⟩
   ·simpa [Oper.wp, execOp, Oper.upon] using hw
   simp [Oper.asks, execOp, Sem.events_pure] at h
  case extract x i =>
   cases hx : a.eval x with
   | tuple vs =>
    cases hv : vs[i]? with
    | some v =>
     refine ⟨v, .inl ⟨by simp [Region.wanted], fun w => by simp [execOp, Instr.extract, hx, hv]⟩, ?_⟩
     rcases hw with hw | ⟨h, _⟩
     ·simpa [Oper.wp, execOp, Oper.upon, Instr.extract, hx, hv] using hw
     simp [Oper.asks, execOp, Sem.events_pure, Instr.extract, hx, hv] at h
    | none =>
     exfalso
     rcases hw with hw | ⟨h, _⟩
     ·simp [Oper.wp, execOp, Oper.upon, Instr.extract, hx, hv] at hw
     simp [Oper.asks, execOp, Sem.events_pure, Instr.extract, hx, hv] at h
   | _ =>
    exfalso
    rcases hw with hw | ⟨h, _⟩
    ·simp [Oper.wp, execOp, Oper.upon, Instr.extract, hx] at hw
    simp [Oper.asks, execOp, Sem.events_pure, Instr.extract, hx] at h
theorem listed_upTo {listed : Array Bool} {j : Nat} (hsz : listed.size = ops.size) (hl : ∀ i, i < ops.size → (listed.getD i false = true ↔ i < j)) : listed = upTo ops.size j := by
 refine Array.ext (by simp [upTo, hsz]) (fun i h1 h2 => ?_)
 have h := hl i (by omega)
 rw [Array.getD_eq_getD_getElem?] at h
 simp [h1] at h
 have e : (upTo ops.size j)[i] = Nat.blt i j := by simp [upTo]
 rw [e, Bool.eq_iff_iff, h]
 simp
theorem listed_allBut {listed : Array Bool} {k f : Nat} (hsz : listed.size = ops.size) (hl : ∀ i, i < ops.size → (listed.getD i false = true ↔ (i < k ∧ i ≠ f))) : listed = allBut ops.size k f := by
 refine Array.ext (by simp [allBut, hsz]) (fun i h1 h2 => ?_)
 have h := hl i (by omega)
 rw [Array.getD_eq_getD_getElem?] at h
 simp [h1] at h
 have e : (allBut ops.size k f)[i] = (Nat.blt i k && !Nat.beq i f) := by simp [allBut]
 rw [e, Bool.eq_iff_iff, h, Bool.and_eq_true, Bool.not_eq_true', Nat.blt_eq]
 constructor
 ·rintro ⟨a, b⟩
  refine ⟨a, ?_⟩
  cases hb : Nat.beq i f with
  | false => rfl
  | true => exact absurd (Nat.eq_of_beq_eq_true hb) b
 rintro ⟨a, b⟩
 exact ⟨a, fun e => by subst e; simp at b⟩
/-- The last part, in its order. -/
theorem tail_any {pre : List Nat} {k n : Nat} (hok : drawOk ops pre k n = true) (hQ : ∀ c d v a w, Q (.panic c) (a.put d v) w → Q (.panic c) a w) : ∀ (fuel j : Nat) (listed : Array Bool) (a : Act) (w : World), k ≤ j → j ≤ ops.size → fuel = ops.size - j → Closed ops listed →
  (∀ i, i < ops.size → (listed.getD i false = true ↔ i < j)) → wpList P ops Q (ops.toList.drop j) a w → wpAny P .any ops Q fuel listed a w := by
 obtain ⟨hb, hanck, hanc⟩ := drawOk_spec hok
 intro fuel
 induction fuel with
 | zero =>
  intro j listed a w hk hj hf hc hl hw
  have hje : j = ops.size := by omega
  subst hje
  have hdrop : ops.toList.drop ops.size = [] := by simp
  rw [hdrop] at hw
  refine ⟨?_, hw⟩
  rw [List.eq_nil_iff_forall_not_mem]
  intro i hi
  obtain ⟨h0, o, ho, _⟩ := ready_iff.1 hi
  have hlt : i < ops.size := (Array.getElem?_eq_some_iff.1 ho).1
  have := (hl i hlt).2 hlt
  have hsz : i < listed.size := by rw [hc.1]; exact hlt
  rw [Array.getD_eq_getD_getElem?] at h0 this
  simp [hsz] at h0 this
  rw [h0] at this; cases this
 | succ fuel ih =>
  intro j listed a w hk hj hf hc hl hw
  have hlt : j < ops.size := by omega
  have hsz : j < listed.size := by rw [hc.1]; exact hlt
  have hun : listed.getD j true = false := by
   have : ¬ listed.getD j false = true := fun h => by have := (hl j hlt).1 h; omega
   rw [Array.getD_eq_getD_getElem?] at this ⊢
   simp [hsz] at this ⊢
   exact this
  rcases hanc j hlt hk with hsoft | hanc
  ·unfold softAt at hsoft
   cases hoj : ops[j]? with
   | none => rw [hoj] at hsoft; cases hsoft
   | some o =>
    rw [hoj] at hsoft
    simp only [Bool.and_eq_true] at hsoft
    obtain ⟨⟨⟨hs1, hs2⟩, hs3⟩, hs4⟩ := hsoft
    have hup := listed_upTo hc.1 hl
    rw [← hup] at hs3 hs4
    have hcons : ops.toList.drop j = o :: ops.toList.drop (j + 1) := by
     have hg : ops.toList[j]? = some o := by simpa using hoj
     obtain ⟨hlt', hge⟩ := List.getElem?_eq_some_iff.1 hg
     rw [List.drop_eq_getElem_cons hlt', hge]
    rw [hcons] at hw
    obtain ⟨v, hy, hw2⟩ := soft_yields hs1 hw
    refine wpAny_take (v := v) hoj hs2 hs3 hs4 (fun c a w => hQ c _ v a w) hy ?_
    have hready : j ∈ Region.ready .any ops listed := by simpa using hs4
    refine ih (j + 1) _ _ w (by omega) (by omega) (by omega) (hc.set hready) (fun m hm => ?_) hw2
    by_cases him : j = m
    ·subst him
     constructor
     ·intro _; omega
     intro _
     rw [Array.getD_eq_getD_getElem?]
     simp [hsz]
    rw [getD_set_ne false him, hl m hm]
    omega
  refine ⟨fun hnil => absurd hnil (ready_ne_nil hc hb ⟨j, hlt, hun⟩), fun i hi => ?_⟩
  obtain ⟨h0, o, ho, hafter⟩ := ready_iff.1 hi
  have hilt : i < ops.size := (Array.getElem?_eq_some_iff.1 ho).1
  have hij : i = j := by
   have hisz : i < listed.size := by rw [hc.1]; exact hilt
   have hni : ¬ i < j := fun h => by
    have := (hl i hilt).2 h
    rw [Array.getD_eq_getD_getElem?] at h0 this
    simp [hisz] at h0 this
    rw [h0] at this; cases this
   rcases Nat.lt_or_ge j i with h | h
   ·have := hc.anc n i (fun o' ho' => by rw [ho] at ho'; injection ho' with ho'; subst ho'; exact hafter) j (hanc i hilt h)
    have := (hl j hlt).1 this
    omega
   omega
  subst hij
  have hcons : ops.toList.drop i = o :: ops.toList.drop (i + 1) := by
   have hg : ops.toList[i]? = some o := by simpa using ho
   obtain ⟨hlt', hge⟩ := List.getElem?_eq_some_iff.1 hg
   rw [List.drop_eq_getElem_cons hlt', hge]
  rw [hcons] at hw
  have hnext : ∀ a w, wpList P ops Q (ops.toList.drop (i + 1)) a w → wpAny P .any ops Q fuel (listed.setIfInBounds i true) a w := fun a w h =>
   ih (i + 1) _ a w (by omega) (by omega) (by omega) (hc.set hi) (fun m hm => by
    by_cases him : i = m
    ·subst him
     constructor
     ·intro _; omega
     intro _
     rw [Array.getD_eq_getD_getElem?]
     simp [hsz]
    rw [getD_set_ne false him, hl m hm]
    omega) h
  unfold wpOp
  rw [ho]
  unfold wpList at hw
  simp only
  split at hw
  ·rename_i hwant
   rw [if_pos hwant]
   exact hw.imp (Oper.wp_mono hnext) id
  rename_i hwant
  rw [if_neg hwant]
  exact hnext _ _ hw

theorem dsts_spec {l : List Oper} {ds : List Nat} (h : dsts l = some ds) : ∀ (j : Nat) (o : Oper), l[j]? = some o → ∃ d, o.dst = some d ∧ ds[j]? = some d := by
 induction l generalizing ds with
 | nil => intro j o hj; simp at hj
 | cons p t ih =>
  unfold dsts at h
  split at h
  ·rename_i d ds' h1 h2
   injection h with h
   subst h
   intro j o hj
   cases j with
   | zero =>
    simp at hj
    subst hj
    exact ⟨d, h1, rfl⟩
   | succ j => simpa using ih h2 j o (by simpa using hj)
  cases h

/-- Operations that leave the world alone and whose values are known may be taken first. -/
inductive PreR (P : Program) (l : List Oper) (N : Nat) : List (Nat × Value) → List (Nat × Nat × Value) → Prop
 | nil (F : List (Nat × Value)) : PreR P l N F []
 | cons (F : List (Nat × Value)) (j d : Nat) (v : Value) (o : Oper) (rest : List (Nat × Nat × Value)) : l[j]? = some o → o.dst = some d → o.guard = none → Nat.blt d N = true → (∀ a w, Fr a N F → (execOp a.eval o).run P w = .ok (.value v) w) →
   PreR P l N ((d, v) :: F) rest → PreR P l N F ((j, d, v) :: rest)

theorem PreR.dst {l : List Oper} {F : List (Nat × Value)} {pre : List (Nat × Nat × Value)} (h : PreR P l N F pre) : ∀ p ∈ pre, dstOf l.toArray p.1 = p.2.1 := by
 induction h with
 | nil => intro p hp; cases hp
 | cons _ _ _ _ _ _ h1 h2 _ _ _ _ ih =>
  intro p hp
  rcases List.mem_cons.1 hp with rfl | hp
  ·obtain ⟨hlt, hge⟩ := List.getElem?_eq_some_iff.1 h1
   simp [dstOf, hlt, hge, h2]
  exact ih p hp

def preOk (ops : Array Oper) : Array Bool → List Nat → Bool
 | _, [] => true
 | listed, j :: t => Region.free .any ops listed j && (Region.ready .any ops listed).contains j && preOk ops (listed.setIfInBounds j true) t
def preListed : Array Bool → List Nat → Array Bool
 | listed, [] => listed
 | listed, j :: t => preListed (listed.setIfInBounds j true) t
def preF : List (Nat × Value) → List (Nat × Nat × Value) → List (Nat × Value)
 | F, [] => F
 | F, (_, d, v) :: t => preF ((d, v) :: F) t

theorem take_pre {l : List Oper} (hs : Region.noSelect l.toArray = true) (hQ : ∀ c d v a w, Q (.panic c) (a.put (some d) v) w → Q (.panic c) a w) {w : World} {fuel : Nat} : ∀ {pre : List (Nat × Nat × Value)} {F : List (Nat × Value)} {listed : Array Bool} {a : Act}, PreR P l N F pre →
  preOk l.toArray listed (pre.map (·.1)) = true → Closed l.toArray listed → Fr a N F → (∀ a', Fr a' N (preF F pre) → Closed l.toArray (preListed listed (pre.map (·.1))) → wpAny P .any l.toArray Q fuel (preListed listed (pre.map (·.1))) a' w) →
  wpAny P .any l.toArray Q (fuel + pre.length) listed a w := by
 intro pre
 induction pre with
 | nil => intro F listed a _ _ hc hF h; exact h a hF hc
 | cons p t ih =>
  intro F listed a hp hok hc hF h
  cases hp with
  | cons _ j d v o _ ho hd hg hN hrun hrest =>
   simp only [List.map_cons, preOk, Bool.and_eq_true] at hok
   have ho' : l.toArray[j]? = some o := by simpa using ho
   have hy : Yields P l.toArray o v a := .inl ⟨by simp [Region.wanted, hg], fun w => hrun a w hF⟩
   have hready : j ∈ Region.ready .any l.toArray listed := by simpa using hok.1.2
   have := wpAny_take (fuel := fuel + t.length) (w := w) ho' hs hok.1.1 hok.1.2 (fun c a w => by rw [hd]; exact hQ c d v a w) hy
    (by rw [hd]; exact ih hrest hok.2 (hc.set hready) (hF.put hN) h)
   simpa [Nat.add_assoc] using this

theorem lk_preF : ∀ (pre : List (Nat × Nat × Value)) (F : List (Nat × Value)), (pre.map (·.2.1)).Nodup → ∀ i v, lk ((pre.map fun p => (p.2.1, p.2.2)) ++ F) i = some v → lk (preF F pre) i = some v := by
 intro pre
 induction pre with
 | nil => intro F _ i v h; simpa [preF] using h
 | cons p t ih =>
  intro F hn i v h
  obtain ⟨j, d, u⟩ := p
  simp only [List.map_cons, List.nodup_cons] at hn
  simp only [preF]
  refine ih ((d, u) :: F) hn.2 i v ?_
  simp only [List.map_cons, List.cons_append, lk] at h
  rw [lk_append]
  cases hb : Nat.beq d i with
  | true =>
   rw [hb] at h
   simp only [cond_true, Option.some.injEq] at h
   have hi := Nat.eq_of_beq_eq_true hb
   subst hi
   have hnone : lk (t.map fun p => (p.2.1, p.2.2)) d = none := by
    have hn1 := hn.1
    clear ih h hn hb
    induction t with
    | nil => rfl
    | cons q qt ihq =>
     simp only [List.map_cons, List.mem_cons, not_or] at hn1
     simp only [List.map_cons, lk]
     have : Nat.beq q.2.1 d = false := by
      cases hb : Nat.beq q.2.1 d with
      | false => rfl
      | true => exact absurd (Nat.eq_of_beq_eq_true hb).symm hn1.1
     rw [this]
     exact ihq hn1.2
   rw [hnone]
   simp [lk, h]
  | false =>
   rw [hb] at h
   simp only [cond_false] at h
   rw [lk_append] at h
   cases hq : lk (t.map fun p => (p.2.1, p.2.2)) i with
   | some z => rw [hq] at h; simpa using h
   | none =>
    rw [hq] at h
    simp only [Option.none_or] at h ⊢
    simp [lk, hb, h]

/-- **A statement whose order is left open.** The first k operations in whatever order (each hands back a value, of which 'V' is told; memory that is owned stays as it is); the others in their order. -/
theorem HC_drawS {σ : Type} {le : σ → σ → Prop} (hrefl : ∀ s, le s s) (htr : ∀ a b c, le a b → le b c → le a c) {S0 : σ → World → Prop} {s0 : σ} (hS0 : ∀ w, St E w R As → S0 s0 w) {id : Nat} {l : List Oper} (pre : List (Nat × Nat × Value)) (k n : Nat) (V : Nat → σ → Value → Prop) (deps : Nat → List Nat) {ds : List Nat} (hm : P.follows .mixedOrders = true)
  (hok : drawOk l.toArray (pre.map (·.1)) k n = true) (hprek : ((pre.map (·.1)).all fun i => Nat.blt i k) = true) (hsel : pre ≠ [] → Region.noSelect l.toArray = true) (hQ : ∀ c d v a w, Q (.panic c) (a.put d v) w → Q (.panic c) a w) (hpreR : PreR P l N F pre) (hpreOk : preOk l.toArray (Array.replicate l.length false) (pre.map (·.1)) = true) (hprend : (pre.map (·.1)).Nodup) (hpreV : ∀ p ∈ pre, ∀ R : σ, V p.1 R p.2.2) (hk : Nat.ble k l.length = true) (hds : dsts (l.take k) = some ds) (hnd : ds.Nodup) (hF : (ds.all fun d => (lk F d).isNone) = true)
  (hdep : (List.range k).all (fun j => (deps j).all fun i => Nat.blt i k && match l[j]? with | some o => o.after.any fun e => Region.binds .any e && Nat.beq e.on i | none => false) = true)
  (hmono : ∀ j (R R' : σ) v, le R R' → V j R v → V j R' v)
  (hop : ∀ j o, l[j]? = some o → j < k → ∀ R1 G, le s0 R1 → DepS V l.toArray R1 (deps j) fun L => ∀ a w, Fr a N (L ++ F ++ G) → S0 R1 w → wpList P l.toArray (DQS N le S0 R1 (dstOf l.toArray j) (V j) (L ++ F ++ G)) [o] a w)
  (htail : ∀ R1, le s0 R1 → DepS V l.toArray R1 (List.range k) fun L => ∀ a w, Fr a N (L ++ F) → S0 R1 w → wpList P l.toArray Q (l.drop k) a w) :
  HC P Q N F E R As (.region id l.toArray true) := by
 obtain ⟨hb, hanc, _⟩ := drawOk_spec hok
 have hk' : k ≤ l.length := by simpa using hk
 have hprek' : ∀ i ∈ pre.map (·.1), i < k := fun i hi => by simpa using List.all_eq_true.1 hprek i hi
 have hsz : l.toArray.size = l.length := by simp
 -- temporaries of the first part
 have hd1 : ∀ j, j < k → ∃ o d, l[j]? = some o ∧ o.dst = some d ∧ dstOf l.toArray j = d ∧ ds[j]? = some d := by
  intro j hj
  have hlt : j < l.length := by omega
  have ho : l[j]? = some l[j] := by simp [hlt]
  obtain ⟨d, hd, hdj⟩ := dsts_spec hds j l[j] (by rw [List.getElem?_take, if_pos hj]; exact ho)
  exact ⟨l[j], d, ho, hd, by simp [dstOf, hlt, hd], hdj⟩
 have hinj : ∀ i, i < k → ∀ j, j < k → dstOf l.toArray i = dstOf l.toArray j → i = j := by
  intro i hi j hj he
  obtain ⟨_, d, _, _, h1, h2⟩ := hd1 i hi
  obtain ⟨_, d', _, _, h1', h2'⟩ := hd1 j hj
  have hdd : d = d' := by rw [← h1, ← h1', he]
  subst hdd
  obtain ⟨hil, hi'⟩ := List.getElem?_eq_some_iff.1 h2
  obtain ⟨hjl, hj'⟩ := List.getElem?_eq_some_iff.1 h2'
  have hpw := List.pairwise_iff_getElem.1 hnd
  rcases Nat.lt_trichotomy i j with h | h | h
  ·exact absurd (hi'.trans hj'.symm) (hpw i j hil hjl h)
  ·exact h
  exact absurd (hj'.trans hi'.symm) (hpw j i hjl hil h)
 have hnotF : ∀ j, j < k → lk F (dstOf l.toArray j) = none := by
  intro j hj
  obtain ⟨_, d, _, _, h1, h2⟩ := hd1 j hj
  rw [h1]
  have := List.all_eq_true.1 hF d (List.mem_of_getElem? h2)
  simpa using this
 -- the first part
 have main : ∀ (fuel : Nat) (listed : Array Bool) (a : Act) (w : World) (R1 : σ) (S : List Nat) (val : Nat → Value), (∀ i ∈ pre.map (·.1), i ∈ S) → fuel + S.length = l.length → Closed l.toArray listed → S.Nodup →
   (∀ i ∈ S, i < k) → (∀ i, i < l.length → (listed.getD i false = true ↔ i ∈ S)) → le s0 R1 → (∀ i ∈ S, V i R1 (val i)) →
   Fr a N ((S.map fun i => (dstOf l.toArray i, val i)) ++ F) → S0 R1 w → wpAny P .any l.toArray Q fuel listed a w := by
  intro fuel
  induction fuel with
  | zero =>
   intro listed a w R1 S val hpS hfuel hc hSn hSk hl hle hV hFr hSt
   -- all is listed, so k is all there is
   have hall : ∀ i, i < k → i ∈ S := by
    intro i hi
    rcases Classical.em (i ∈ S) with h | h
    ·exact h
    exfalso
    have hsub : (i :: S).Nodup := List.nodup_cons.2 ⟨h, hSn⟩
    have hlen := List.Nodup.length_le_of_subset hsub (l₂ := List.range k) (fun x hx => by
     rcases List.mem_cons.1 hx with rfl | hx
     ·simpa using hi
     simpa using hSk x hx)
    simp at hlen
    omega
   have hkl : k = l.length := by
    have hlen := List.Nodup.length_le_of_subset hSn (l₂ := List.range k) (fun x hx => by simpa using hSk x hx)
    simp at hlen
    omega
   have ht := (htail R1 hle).use val (fun i hi => hV i (hall i (by simpa using hi)))
   refine tail_any hok hQ 0 k listed a w (Nat.le_refl _) (by simp; omega) (by simp; omega) hc (fun i hi => ?_) (by
    have := ht a w ?_ hSt
    ·simpa using this
    refine ⟨hFr.size, hFr.defers, fun d v h => hFr.look d v ?_⟩
    rw [lk_append] at h ⊢
    cases hq : lk ((List.range k).map fun i => (dstOf l.toArray i, val i)) d with
    | some u =>
     rw [hq] at h
     simp only [Option.some_or, Option.some.injEq] at h
     obtain ⟨i, hi, h1, h2⟩ := lk_map_get _ val (fun a ha b hb => hinj a (by simpa using ha) b (by simpa using hb)) d u hq
     subst h
     have hfind : lk (S.map fun i => (dstOf l.toArray i, val i)) d = some u := by
      rw [← h1, ← h2]
      exact lk_map_mem S val (fun a ha b hb => hinj a (hSk a ha) b (hSk b hb)) i (hall i (by simpa using hi))
     rw [hfind]; rfl
    | none =>
     rw [hq] at h
     simp only [Option.none_or] at h
     cases hq2 : lk (S.map fun i => (dstOf l.toArray i, val i)) d with
     | none => simpa using h
     | some u =>
      obtain ⟨i, hi, h1, h2⟩ := lk_map_get _ val (fun a ha b hb => hinj a (hSk a ha) b (hSk b hb)) d u hq2
      rw [← h1, hnotF i (hSk i hi)] at h
      cases h)
   rw [hl i (by simpa using hi)]
   exact ⟨fun h => hSk i h, fun h => hall i h⟩
  | succ fuel ih =>
   intro listed a w R1 S val hpS hfuel hc hSn hSk hl hle hV hFr hSt
   by_cases hfull : ∀ i, i < k → i ∈ S
   ·have hSlen : S.length = k := by
     have h1 := List.Nodup.length_le_of_subset hSn (l₂ := List.range k) (fun x hx => by simpa using hSk x hx)
     have h2 := List.Nodup.length_le_of_subset (List.nodup_range (n := k)) (l₂ := S) (fun x hx => hfull x (by simpa using hx))
     simp at h1 h2
     omega
    have ht := (htail R1 hle).use val (fun i hi => hV i (hfull i (by simpa using hi)))
    refine tail_any hok hQ (fuel + 1) k listed a w (Nat.le_refl _) (by simp; omega) (by simp; omega) hc (fun i hi => ?_) (by
     have := ht a w ?_ hSt
     ·simpa using this
     refine ⟨hFr.size, hFr.defers, fun d v h => hFr.look d v ?_⟩
     rw [lk_append] at h ⊢
     cases hq : lk ((List.range k).map fun i => (dstOf l.toArray i, val i)) d with
     | some u =>
      rw [hq] at h
      simp only [Option.some_or, Option.some.injEq] at h
      obtain ⟨i, hi, h1, h2⟩ := lk_map_get _ val (fun a ha b hb => hinj a (by simpa using ha) b (by simpa using hb)) d u hq
      subst h
      have hfind : lk (S.map fun i => (dstOf l.toArray i, val i)) d = some u := by
       rw [← h1, ← h2]
       exact lk_map_mem S val (fun a ha b hb => hinj a (hSk a ha) b (hSk b hb)) i (hfull i (by simpa using hi))
      rw [hfind]; rfl
     | none =>
      rw [hq] at h
      simp only [Option.none_or] at h
      cases hq2 : lk (S.map fun i => (dstOf l.toArray i, val i)) d with
      | none => simpa using h
      | some u =>
       obtain ⟨i, hi, h1, h2⟩ := lk_map_get _ val (fun a ha b hb => hinj a (hSk a ha) b (hSk b hb)) d u hq2
       rw [← h1, hnotF i (hSk i hi)] at h
       cases h)
    rw [hl i (by simpa using hi)]
    exact ⟨fun h => hSk i h, fun h => hfull i h⟩
   simp only [Classical.not_forall] at hfull
   obtain ⟨i0, hi0, hni0⟩ := hfull
   have hun : listed.getD i0 true = false := by
    have h1 : ¬ listed.getD i0 false = true := fun h => hni0 ((hl i0 (by omega)).1 h)
    have hs : i0 < listed.size := by rw [hc.1]; simp; omega
    rw [Array.getD_eq_getD_getElem?] at h1 ⊢
    simp [hs] at h1 ⊢
    exact h1
   have step : ∀ j, j ∈ Region.ready .any l.toArray listed → j < k → ∃ o G, l.toArray[j]? = some o ∧ wpList P l.toArray (DQS N le S0 R1 (dstOf l.toArray j) (V j) G) [o] a w ∧
     ∀ a' w', DQS N le S0 R1 (dstOf l.toArray j) (V j) G .normal a' w' → wpAny P .any l.toArray Q fuel (listed.setIfInBounds j true) a' w' := by
    intro j hj hjk
    obtain ⟨h0, o, ho, hafter⟩ := ready_iff.1 hj
    have hjlt : j < l.length := by simpa using (Array.getElem?_eq_some_iff.1 ho).1
    have hjS : j ∉ S := fun h => by
     have h1 := (hl j hjlt).2 h
     have hs : j < listed.size := by rw [hc.1]; simpa using hjlt
     rw [Array.getD_eq_getD_getElem?] at h0 h1
     simp [hs] at h0 h1
     rw [h0] at h1; cases h1
    have ho' : l[j]? = some o := by simpa using ho
    -- its forerunners have come up
    have hdepS : ∀ i ∈ deps j, i ∈ S := by
     intro i hi
     have h1 := List.all_eq_true.1 hdep j (by simpa using hjk)
     have h2 := List.all_eq_true.1 h1 i hi
     rw [ho', Bool.and_eq_true] at h2
     obtain ⟨hik, h3⟩ := h2
     obtain ⟨e, he, h4⟩ := Array.any_eq_true'.1 h3
     rw [Bool.and_eq_true] at h4
     have h5 := hafter e he h4.1
     rw [Nat.eq_of_beq_eq_true h4.2] at h5
     have hik' : i < k := by simpa using hik
     exact (hl i (by omega)).1 h5
    have hrun := (hop j o ho' hjk R1 ((S.map fun i => (dstOf l.toArray i, val i)) ++ F) hle).use val (fun i hi => hV i (hdepS i hi))
    have hFr' : Fr a N (((deps j).map fun i => (dstOf l.toArray i, val i)) ++ F ++ ((S.map fun i => (dstOf l.toArray i, val i)) ++ F)) := by
     refine ⟨hFr.size, hFr.defers, fun d v h => ?_⟩
     rw [lk_append, lk_append] at h
     have hS : ∀ i ∈ S, a.tmps[dstOf l.toArray i]? = some (val i) := by
      intro i hi
      refine hFr.look _ _ ?_
      rw [lk_append]
      rw [lk_map_mem S val (fun a ha b hb => hinj a (hSk a ha) b (hSk b hb)) i hi]
      rfl
     cases hq : lk ((deps j).map fun i => (dstOf l.toArray i, val i)) d with
     | some u =>
      rw [hq] at h
      simp only [Option.some_or, Option.some.injEq] at h
      subst h
      obtain ⟨i, hi, h1, h2⟩ := lk_map_get (deps j) val (fun a ha b hb => hinj a (hSk a (hdepS a ha)) b (hSk b (hdepS b hb))) d u hq
      rw [← h1, ← h2]
      exact hS i (hdepS i hi)
     | none =>
      rw [hq] at h
      simp only [Option.none_or] at h
      cases hq2 : lk F d with
      | some u =>
       rw [hq2] at h
       simp only [Option.some_or, Option.some.injEq] at h
       subst h
       refine hFr.look d u ?_
       rw [lk_append]
       cases hq3 : lk (S.map fun i => (dstOf l.toArray i, val i)) d with
       | some u' =>
        obtain ⟨i, hi, h1, _⟩ := lk_map_get _ val (fun a ha b hb => hinj a (hSk a ha) b (hSk b hb)) _ u' hq3
        rw [← h1, hnotF i (hSk i hi)] at hq2
        cases hq2
       | none => simpa using hq2
      | none =>
       rw [hq2] at h
       simp only [Option.none_or] at h
       exact hFr.look d v h
    have hw := hrun a w hFr' hSt
    -- and so on
    have hnext : ∀ a' w', DQS N le S0 R1 (dstOf l.toArray j) (V j) (((deps j).map fun i => (dstOf l.toArray i, val i)) ++ F ++ ((S.map fun i => (dstOf l.toArray i, val i)) ++ F)) .normal a' w' →
      wpAny P .any l.toArray Q fuel (listed.setIfInBounds j true) a' w' := by
     intro a' w' ⟨v, R2, hle2, hv, hFr2, hSt2⟩
     let val' : Nat → Value := fun i => if i = j then v else val i
     have hval : ∀ i ∈ S, val' i = val i := fun i hi => if_neg (fun (e : i = j) => hjS (e ▸ hi))
     refine ih (listed.setIfInBounds j true) a' w' R2 (j :: S) val' (fun i hi => List.mem_cons_of_mem _ (hpS i hi)) (by simp; omega) (hc.set hj) (List.nodup_cons.2 ⟨hjS, hSn⟩) (fun i hi => ?_) (fun i hi => ?_) (htr _ _ _ hle hle2) (fun i hi => ?_) ?_ hSt2
     ·rcases List.mem_cons.1 hi with rfl | hi
      ·exact hjk
      exact hSk i hi
     ·by_cases hij : j = i
      ·subst hij
       have hs : j < listed.size := by rw [hc.1]; simpa using hjlt
       rw [Array.getD_eq_getD_getElem?]
       simp [hs]
      rw [getD_set_ne false hij, hl i hi]
      simp [Ne.symm hij]
     ·rcases List.mem_cons.1 hi with rfl | hi
      ·simpa [val'] using hv
      rw [hval i hi]; exact hmono i _ _ _ hle2 (hV i hi)
     refine ⟨hFr2.size, hFr2.defers, fun d u h => hFr2.look d u ?_⟩
     simp only [List.map_cons, List.cons_append, lk] at h ⊢
     cases hbj : Nat.beq (dstOf l.toArray j) d with
     | true =>
      rw [hbj] at h
      simpa [val'] using h
     | false =>
      rw [hbj] at h
      simp only [cond_false] at h ⊢
      have hmap : (S.map fun i => (dstOf l.toArray i, val' i)) = S.map fun i => (dstOf l.toArray i, val i) := List.map_congr_left fun i hi => by rw [hval i hi]
      rw [hmap] at h
      rw [lk_append, lk_append]
      cases hq : lk ((deps j).map fun i => (dstOf l.toArray i, val i)) d with
      | some u' =>
       obtain ⟨i, hi, h1, h2⟩ := lk_map_get (deps j) val (fun a ha b hb => hinj a (hSk a (hdepS a ha)) b (hSk b (hdepS b hb))) d u' hq
       have h3 := hFr'.look d u' (by rw [lk_append, lk_append, hq]; rfl)
       have h4 := hFr.look d u h
       rw [h3] at h4
       simp at h4
       simp [h4]
      | none =>
       cases hq2 : lk F d with
       | some u' =>
        have h3 := hFr'.look d u' (by rw [lk_append, lk_append, hq, hq2]; rfl)
        have h4 := hFr.look d u h
        rw [h3] at h4
        simp at h4
        simp [h4]
       | none => simpa using h
    exact ⟨o, _, ho, hw, hnext⟩
   by_cases hA : ∀ j ∈ Region.ready .any l.toArray listed, j < k
   ·refine ⟨fun hnil => absurd hnil (ready_ne_nil hc hb ⟨i0, by simp; omega, hun⟩), fun j hj => ?_⟩
    obtain ⟨o, G, ho, hw, hnext⟩ := step j hj (hA j hj)
    unfold wpOp
    rw [ho]
    unfold wpList at hw
    simp only
    split at hw
    ·rename_i hwant
     rw [if_pos hwant]
     rcases hw with hw | ⟨_, a₀, w₀, hq⟩
     ·left
      exact wp_mono2 (fun a w h => hnext a w h) (fun _ _ _ h => h) (fun _ _ h => h) hw
     exact hq.elim
    rename_i hwant
    rw [if_neg hwant]
    exact hnext _ _ hw
   -- one is late: it is taken at once
   simp only [Classical.not_forall] at hA
   obtain ⟨j, hj, hjk⟩ := hA
   obtain ⟨_, oj, hoj, hafter⟩ := ready_iff.1 hj
   have hjlt : j < l.length := by simpa using (Array.getElem?_eq_some_iff.1 hoj).1
   have hancS : ∀ m, m < k → m ∈ anc l.toArray n j → m ∈ S := fun m hm h => (hl m (by omega)).1 (hc.anc n j (fun o' ho' => by rw [hoj] at ho'; injection ho' with ho'; subst ho'; exact hafter) m h)
   rcases hanc i0 hi0 with hp | hp | ⟨hlate, hp⟩
   ·exact absurd (hpS i0 hp) hni0
   ·exact absurd (hancS i0 hi0 (hp j (by simpa using hjlt) (by omega))) hni0
   have hothers : ∀ m, m < k → m ≠ i0 → m ∈ S := fun m hm hne => by
    rcases hp m hm hne with h | h
    ·exact hpS m h
    exact hancS m hm (h j (by simpa using hjlt) (by omega))
   have hup := listed_allBut (ops := l.toArray) (listed := listed) (k := k) (f := i0) hc.1 (fun i hi => by
    rw [hl i (by simpa using hi)]
    exact ⟨fun h => ⟨hSk i h, fun e => hni0 (e ▸ h)⟩, fun h => hothers i h.1 h.2⟩)
   unfold lateAt at hlate
   cases ho0 : l.toArray[i0]? with
   | none => rw [ho0] at hlate; cases hlate
   | some o =>
    rw [ho0] at hlate
    simp only [Bool.and_eq_true] at hlate
    obtain ⟨⟨⟨hs1, hs2⟩, hs3⟩, hs4⟩ := hlate
    rw [← hup] at hs3 hs4
    have hready : i0 ∈ Region.ready .any l.toArray listed := by simpa using hs4
    obtain ⟨o', G, ho', hw, hnext⟩ := step i0 hready hi0
    rw [ho0] at ho'
    injection ho' with ho'
    subst ho'
    obtain ⟨v, hy, hw2⟩ := soft_yields hs1 hw
    exact wpAny_take (v := v) ho0 hs2 hs3 hs4 (fun c a w => hQ c _ v a w) hy (hnext _ _ hw2)
 intro a w ha hs
 refine wp_region_any hm ?_
 have hrep : Closed l.toArray (Array.replicate l.length false) := ⟨by simp, fun j hj => by
  exfalso
  rw [Array.getD_eq_getD_getElem?] at hj
  by_cases hlt : j < l.length
  ·simp [hlt] at hj
  simp [hlt] at hj⟩
 have hlistS : ∀ (q : List Nat) (listed : Array Bool), listed.size = l.length → (∀ i ∈ q, i < l.length) → ∀ i, i < l.length → ((preListed listed q).getD i false = true ↔ i ∈ q ∨ listed.getD i false = true) := by
  intro q
  induction q with
  | nil => intro listed _ _ i _; simp [preListed]
  | cons j t ih =>
   intro listed hsz hq i hi
   simp only [preListed]
   rw [ih _ (by simp [hsz]) (fun i hi => hq i (by simp [hi])) i hi]
   by_cases hij : j = i
   ·subst hij
    have : (listed.setIfInBounds j true).getD j false = true := by
     rw [Array.getD_eq_getD_getElem?]; simp [hsz, hi]
    simp [this]
   rw [getD_set_ne false hij]
   simp [Ne.symm hij]
 have hpk : ∀ i ∈ pre.map (·.1), i < l.length := fun i hi => by have := hprek' i hi; omega
 have hplen : pre.length ≤ l.length := by
  have := List.Nodup.length_le_of_subset hprend (l₂ := List.range l.length) (fun x hx => by simpa using hpk x hx)
  simpa using this
 have hfin : ∀ a', Fr a' N (preF F pre) → Closed l.toArray (preListed (Array.replicate l.length false) (pre.map (·.1))) → wpAny P .any l.toArray Q (l.length - pre.length) (preListed (Array.replicate l.length false) (pre.map (·.1))) a' { w with drawn := w.drawn + 1 } := by
  intro a' hF' hc'
  let val : Nat → Value := fun i => (((pre.find? fun p => Nat.beq p.1 i).map (·.2.2)).getD undef)
  have hval : ∀ p ∈ pre, val p.1 = p.2.2 := by
   intro p hp
   have hnd := hprend
   show (((pre.find? fun q => Nat.beq q.1 p.1).map (·.2.2)).getD undef) = _
   clear hpreV hpreOk hpreR hprek hprek' hok hQ hsel main hpk hplen hF' hc' hlistS hanc
   induction pre with
   | nil => cases hp
   | cons q t ih =>
    simp only [List.map_cons, List.nodup_cons] at hnd
    rcases List.mem_cons.1 hp with rfl | hp
    ·simp
    have hne : Nat.beq q.1 p.1 = false := by
     cases hb : Nat.beq q.1 p.1 with
     | false => rfl
     | true => exact absurd (List.mem_map.2 ⟨p, hp, (Nat.eq_of_beq_eq_true hb).symm⟩) hnd.1
    rw [List.find?_cons, hne]
    exact ih hnd.2 hp hnd.2
  refine main (l.length - pre.length) _ a' _ s0 (pre.map (·.1)) val (fun i hi => hi) (by simp; omega) hc' hprend hprek' (fun i hi => ?_) (hrefl _) (fun i hi => ?_) ?_ (hS0 _ (hs.drew _))
  ·rw [hlistS _ _ (by simp) hpk i hi]
   rw [Array.getD_eq_getD_getElem?]
   simp [hi]
  ·obtain ⟨p, hp, rfl⟩ := List.mem_map.1 hi
   rw [hval p hp]
   exact hpreV p hp s0
  refine ⟨hF'.size, hF'.defers, fun d v h => hF'.look d v ?_⟩
  have hdd := hpreR.dst
  have hnd2 : (pre.map (·.2.1)).Nodup := by
   have hi1 : ∀ p ∈ pre, ∀ q ∈ pre, p.2.1 = q.2.1 → p.1 = q.1 := fun p hp q hq e =>
    hinj p.1 (hprek' _ (List.mem_map.2 ⟨p, hp, rfl⟩)) q.1 (hprek' _ (List.mem_map.2 ⟨q, hq, rfl⟩)) (by rw [hdd p hp, hdd q hq, e])
   have hpw : pre.Pairwise fun p q => p.1 ≠ q.1 := List.pairwise_map.1 hprend
   refine List.pairwise_map.2 (hpw.imp_of_mem fun {p q} hp hq hne e => hne (hi1 p hp q hq e))
  refine lk_preF pre F hnd2 d v ?_
  have hmap : ((pre.map (·.1)).map fun i => (dstOf l.toArray i, val i)) = pre.map fun p => (p.2.1, p.2.2) := by
   rw [List.map_map]
   refine List.map_congr_left fun p hp => ?_
   simp only [Function.comp]
   rw [hdd p hp, hval p hp]
  rw [← hmap]; exact h
 have hsum : l.toArray.size = (l.length - pre.length) + pre.length := by simp; omega
 rw [show (Array.replicate l.toArray.size false) = Array.replicate l.length false by simp, hsum]
 by_cases hp0 : pre = []
 ·subst hp0
  exact hfin a ha hrep
 exact take_pre (hsel hp0) (fun c d v a w => hQ c (some d) v a w) hpreR hpreOk hrep ha hfin
theorem HC_draw {id : Nat} {l : List Oper} (pre : List (Nat × Nat × Value)) (k n : Nat) (V : Nat → Frag → Value → Prop) (deps : Nat → List Nat) {ds : List Nat} (hm : P.follows .mixedOrders = true)
  (hok : drawOk l.toArray (pre.map (·.1)) k n = true) (hprek : ((pre.map (·.1)).all fun i => Nat.blt i k) = true) (hsel : pre ≠ [] → Region.noSelect l.toArray = true) (hQ : ∀ c d v a w, Q (.panic c) (a.put d v) w → Q (.panic c) a w) (hpreR : PreR P l N F pre) (hpreOk : preOk l.toArray (Array.replicate l.length false) (pre.map (·.1)) = true) (hprend : (pre.map (·.1)).Nodup) (hpreV : ∀ p ∈ pre, ∀ R, V p.1 R p.2.2) (hk : Nat.ble k l.length = true) (hds : dsts (l.take k) = some ds) (hnd : ds.Nodup) (hF : (ds.all fun d => (lk F d).isNone) = true)
  (hdep : (List.range k).all (fun j => (deps j).all fun i => Nat.blt i k && match l[j]? with | some o => o.after.any fun e => Region.binds .any e && Nat.beq e.on i | none => false) = true)
  (hmono : ∀ j R R' v, Frag.le R R' → V j R v → V j R' v)
  (hop : ∀ j o, l[j]? = some o → j < k → ∀ R1 G, Frag.le R R1 → Dep V l.toArray R1 (deps j) fun L => HL P l.toArray (DQ N E R1 As (dstOf l.toArray j) (V j) (L ++ F ++ G)) N (L ++ F ++ G) E R1 As [o])
  (htail : ∀ R1, Frag.le R R1 → Dep V l.toArray R1 (List.range k) fun L => HL P l.toArray Q N (L ++ F) E R1 As (l.drop k)) :
  HC P Q N F E R As (.region id l.toArray true) :=
 HC_drawS (σ := Frag) (le := Frag.le) Frag.le_refl (fun _ _ _ h1 h2 => Frag.le_trans h1 h2) (S0 := fun R w => St E w R As) (s0 := R) (fun _ h => h) pre k n V deps hm hok hprek hsel hQ hpreR hpreOk hprend hpreV hk hds hnd hF hdep hmono hop htail

end
end Go.Sx

/-! More rules of the logic: what is built, what is appended to, conversions, assertions. Generic: no program is named. -/
namespace Go.Sx
open Go Go.RowKit

/-! ## Aggregates that are built -/

/-- 'fill' over lists. -/
def bld (pl : List (Nat × Nat)) (zs : List Value) : List (Nat × List Value) → Option (List Value)
 | [] => some zs
 | (i, vs) :: t => match pl[i]? with
  | none => none
  | some (off, n) => bif Nat.beq vs.length n && Nat.ble (off + vs.length) zs.length then bld pl (spl zs off vs) t else none

theorem foldl_spl (vs : List Value) : ∀ (zs : List Value) (off k : Nat), off + k + vs.length ≤ zs.length →
  ((vs.zipIdx k).foldl (fun (cs : Array Value) (c, j) => cs.setIfInBounds (off + j) c) ⟨zs⟩) = ⟨spl zs (off + k) vs⟩ := by
 induction vs with
 | nil => intro zs off k _; simp [spl_nil]
 | cons v t ih =>
  intro zs off k h
  simp only [List.length_cons] at h
  simp only [List.zipIdx_cons, List.foldl_cons]
  have e1 : (⟨zs⟩ : Array Value).setIfInBounds (off + k) v = ⟨zs.set (off + k) v⟩ := by
   apply Array.ext'
   simp
  rw [e1, ih _ _ _ (by simp; omega)]
  have e2 : off + (k + 1) = off + k + 1 := by omega
  rw [e2, spl_step]

theorem fill_bld {pl : List (Nat × Nat)} {place : Nat → Option (Nat × Nat)} : ∀ (ps : List (Nat × Value)) (qs : List (Nat × List Value)) (zs cs : List Value), (∀ p ∈ ps, place p.1 = pl[p.1]?) →
  ps.map (fun p => (p.1, p.2.cells)) = qs.map (fun q => (q.1, q.2.toArray)) → bld pl zs qs = some cs → Instr.fill place ⟨zs⟩ ps = some ⟨cs⟩ := by
 intro ps
 induction ps with
 | nil =>
  intro qs zs cs hpl h hb
  cases qs with
  | nil => simp [bld] at hb; subst hb; rfl
  | cons q t => simp at h
 | cons p t ih =>
  intro qs zs cs hpl h hb
  cases qs with
  | nil => simp at h
  | cons q qt =>
   obtain ⟨i, v⟩ := p
   obtain ⟨i', vs⟩ := q
   simp only [List.map_cons, List.cons.injEq, Prod.mk.injEq] at h
   obtain ⟨⟨rfl, hv⟩, ht⟩ := h
   unfold bld at hb
   unfold Instr.fill
   rw [show place i = pl[i]? from hpl (i, v) (by simp)]
   cases hq : pl[i]? with
   | none => rw [hq] at hb; cases hb
   | some on =>
    obtain ⟨off, n⟩ := on
    rw [hq] at hb
    simp only at hb ⊢
    cases hc : (Nat.beq vs.length n && Nat.ble (off + vs.length) zs.length) with
    | false => rw [hc] at hb; cases hb
    | true =>
     rw [hc] at hb
     simp only [cond_true] at hb
     rw [Bool.and_eq_true] at hc
     have h1 := Nat.eq_of_beq_eq_true hc.1
     have h2 : off + vs.length ≤ zs.length := by simpa using hc.2
     rw [hv]
     have e : vs.toArray.zipIdx.foldl (fun (cs : Array Value) (c, j) => cs.setIfInBounds (off + j) c) ⟨zs⟩ = ⟨spl zs off vs⟩ := by
      have := foldl_spl vs zs off 0 (by omega)
      simp only [Nat.add_zero] at this
      rw [← this]
      simp
     rw [if_neg (by simp [h1]; omega)]
     rw [e]
     exact ih qt _ _ (fun p hp => hpl p (by simp [hp])) ht hb

/-- Where the fields of a struct lie. -/
def Plc (P : Program) (T : TypeId) (pl : List (Nat × Nat)) : Prop :=
 ∃ fs, P.underlying T = some (.struct fs) ∧ (fs.toList.map fun f => ((P.info? f.type).map fun i => (f.offset, i.size))) = pl.map some

section
variable {P : Program} {ops : Array Oper} {Q : Exit → Act → World → Prop} {N : Nat} {F : List (Nat × Value)} {E : Env} {R : Frag} {As As' : List Ent}
variable {d : Nat} {ty : TypeId} {pos : String} {af : Array Edge} {l : List Oper} {x y : Operand} {v u : Value} {T : TypeId}

theorem Plc.run {pl : List (Nat × Nat)} {fs : Array Field} (h : (fs.toList.map fun f => ((P.info? f.type).map fun i => (f.offset, i.size))) = pl.map some) (w : World) :
  ((fs.mapM fun f => do pure (f.offset, ← sizeOf f.type) : Sem (Array (Nat × Nat)))).run P w = .ok pl.toArray w := by
 have main : ∀ (l : List Field) (pl : List (Nat × Nat)), (l.map fun f => ((P.info? f.type).map fun i => (f.offset, i.size))) = pl.map some →
   ((l.mapM fun f => do pure (f.offset, ← sizeOf f.type) : Sem (List (Nat × Nat)))).run P w = .ok pl w := by
  intro l
  induction l with
  | nil => intro pl h; cases pl with
   | nil => rfl
   | cons _ _ => simp at h
  | cons f t ih =>
   intro pl h
   cases pl with
   | nil => simp at h
   | cons p pt =>
    simp only [List.map_cons, List.cons.injEq] at h
    obtain ⟨h1, h2⟩ := h
    obtain ⟨i, hi, hp⟩ := Option.map_eq_some_iff.1 h1
    have e1 : (do pure (f.offset, ← sizeOf f.type) : Sem (Nat × Nat)).run P w = .ok p w := by
     simp [sizeOf, typeInfo, hi, hp]
    rw [List.mapM_cons, Sem.run_bind, e1]
    simp only [Result.andThen_ok, Sem.run_bind, ih pt h2, Sem.run_pure]
 cases fs with
 | mk l =>
  have := main l pl h
  rw [show (⟨l⟩ : Array Field) = l.toArray from rfl, List.mapM_toArray, Sem.run_map, this]
  rfl

/-- A struct that is built of its fields. -/
theorem HL_build {ps : List (Nat × Operand)} {pvs : List Value} {qs : List (List Value)} {pl : List (Nat × Nat)} {zs cs : List Value} (hd : Nat.blt d N = true) (hz : TyZ P T (.agg ⟨zs⟩)) (hpl : Plc P T pl)
  (hx : evs F (ps.map (·.2)) = some pvs) (hq : pvs.map Value.cells = qs.map List.toArray) (hb : bld pl zs ((ps.map (·.1)).zip qs) = some cs)
  (k : HL P ops Q N ((d, .agg cs.toArray) :: F) E R As l) : HL P ops Q N F E R As (⟨some d, .build T ps.toArray, ty, pos, af, none⟩ :: l) :=
 HL_same hd (fun a w ha hs => by
  obtain ⟨fs, hfs, hm⟩ := hpl
  have hev := ha.evals hx
  have hfill := fill_bld (pl := pl) (place := fun i => pl.toArray[i]?) (ps.map fun p => (p.1, a.eval p.2)) ((ps.map (·.1)).zip qs) zs cs (fun p _ => by simp) ?_ hb
  ·have hz' := hz.run_zero (w := w)
   show Sem.run P (do let r ← Instr.build T (ps.toArray.map fun (i, x) => (i, a.eval x)); pure (Next.value r)) w = _
   have hps : (ps.toArray.map fun (i, x) => (i, a.eval x)).toList = ps.map fun p => (p.1, a.eval p.2) := by simp
   have hb1 : (Instr.build T (ps.toArray.map fun (i, x) => (i, a.eval x))).run P w = .ok (.agg cs.toArray) w := by
    simp only [Instr.build, Sem.run_bind, hz', Result.andThen_ok, run_underlying' hfs, Plc.run hm w, hps, Value.cells, hfill, Sem.run_pure]
   rw [Sem.run_bind, hb1]; rfl
  have hlen : ps.length = qs.length := by
   have h1 := congrArg List.length hev
   have h2 := congrArg List.length hq
   simp at h1 h2
   omega
  rw [← hev] at hq
  clear hb hx hev
  induction ps generalizing qs with
  | nil => cases qs with
   | nil => rfl
   | cons _ _ => simp at hlen
  | cons p t ih => cases qs with
   | nil => simp at hlen
   | cons q qt =>
    simp only [List.map_cons, List.cons.injEq] at hq
    simp only [List.map_cons, List.zip_cons_cons, hq.1]
    congr 1
    exact ih hq.2 (by simpa using hlen)) k

theorem parts_eq {ps : List (Nat × Operand)} {pvs : List Value} {qs : List (List Value)} {a : Act} (ha : Fr a N F) (hx : evs F (ps.map (·.2)) = some pvs) (hq : pvs.map Value.cells = qs.map List.toArray) :
  (ps.map fun p => (p.1, a.eval p.2)).map (fun p => (p.1, p.2.cells)) = ((ps.map (·.1)).zip qs).map fun q => (q.1, q.2.toArray) := by
 have hev := ha.evals hx
 have hlen : ps.length = qs.length := by
  have h1 := congrArg List.length hev
  have h2 := congrArg List.length hq
  simp at h1 h2
  omega
 rw [← hev] at hq
 clear hx hev
 induction ps generalizing qs with
 | nil => cases qs with
  | nil => rfl
  | cons _ _ => simp at hlen
 | cons p t ih => cases qs with
  | nil => simp at hlen
  | cons q qt =>
   simp only [List.map_cons, List.cons.injEq] at hq
   simp only [List.map_cons, List.zip_cons_cons, hq.1]
   congr 1
   exact ih hq.2 (by simpa using hlen)

/-- A slice that is built of its elements. -/
theorem HL_buildSlice {te len sz : Nat} {agg : Bool} {z : Value} {ps : List (Nat × Operand)} {pvs : List Value} {qs : List (List Value)} {cs : List Value} (hd : Nat.blt d N = true) (hT : P.underlying T = some (.slice te)) (hte : Ty P te agg sz) (hz : TyZ P te z)
  (hsm : Nat.ble (len * sz) 16777216 = true) (hx : evs F (ps.map (·.2)) = some pvs) (hq : pvs.map Value.cells = qs.map List.toArray) (hi : (ps.all fun p => Nat.blt p.1 len) = true)
  (hb : ∀ zs, zs.length = len * sz → bld ((List.range len).map fun i => (i * sz, sz)) zs ((ps.map (·.1)).zip qs) = some cs)
  (k : ∀ b, HL P ops Q N ((d, .slice (some ⟨b, 0, none⟩) len len) :: F) E R (blk b cs te :: As) l) : HL P ops Q N F E R As (⟨some d, .buildSlice T len ps.toArray, ty, pos, af, none⟩ :: l) := fun a w ha hs => by
 have hsm' : ¬ 2 ^ 24 < len * sz := by
  have : len * sz ≤ 16777216 := by simpa using hsm
  omega
 refine wp_value rfl (v := .slice (some ⟨w.heap.size, 0, none⟩) len len) (w' := { w with heap := w.heap.push (.cells cs.toArray te (0, 0)) }) ?_ (k w.heap.size _ _ (ha.put hd) (hs.push _))
 show Sem.run P (do let r ← Instr.buildSlice T len (ps.toArray.map fun (i, x) => (i, a.eval x)); pure (Next.value r)) w = _
 have hps : (ps.toArray.map fun (i, x) => (i, a.eval x)).toList = ps.map fun p => (p.1, a.eval p.2) := by simp
 have hzr := hz.run_zero (w := w)
 have hpl : ∀ p ∈ (ps.map fun p => (p.1, a.eval p.2)), (fun i => some (i * sz, sz)) p.1 = ((List.range len).map fun i => (i * sz, sz))[p.1]? := by
  intro p hp
  obtain ⟨q, hq1, rfl⟩ := List.mem_map.1 hp
  have := List.all_eq_true.1 hi q hq1
  have hlt : q.1 < len := by simpa using this
  simp [hlt]
 have hfill : ∀ zs : List Value, zs.length = len * sz → Instr.fill (fun i => some (i * sz, sz)) ⟨zs⟩ (ps.map fun p => (p.1, a.eval p.2)) = some ⟨cs⟩ := fun zs hzs =>
  fill_bld _ _ zs cs hpl (parts_eq ha hx hq) (hb zs hzs)
 have hb1 : (Instr.buildSlice T len (ps.toArray.map fun (i, x) => (i, a.eval x))).run P w = .ok (.slice (some ⟨w.heap.size, 0, none⟩) len len) { w with heap := w.heap.push (.cells cs.toArray te (0, 0)) } := by
  simp only [Instr.buildSlice, Sem.run_bind, run_underlying' hT, Result.andThen_ok, hte.run_sizeOf, if_neg hsm', Sem.run_pure, hps]
  have hgen : ∀ zero : Array Value, Instr.fill (fun i => some (i * sz, sz)) (Array.map (fun x => zero[x % zero.size]!) (Array.range (len * sz))) (ps.map fun p => (p.1, a.eval p.2)) = some ⟨cs⟩ := fun zero => by
   have h0 := hfill ((Array.range (len * sz)).map (fun i => zero[i % zero.size]!)).toList (by simp)
   simpa only [Array.toArray_toList] using h0
  split
  ·simp only [Sem.run_bind, Sem.run_pure, Result.andThen_ok, hgen, newRow, run_newObj]
  simp only [Sem.run_bind, Sem.run_pure, Result.andThen_ok, hzr, hgen, newRow, run_newObj]
 rw [Sem.run_bind, hb1]; rfl

theorem spl_all : ∀ (zs vs : List Value), zs.length = vs.length → spl zs 0 vs = vs := by
 intro zs
 induction zs with
 | nil => intro vs h; cases vs with
  | nil => rfl
  | cons _ _ => simp at h
 | cons z t ih => intro vs h; cases vs with
  | nil => simp at h
  | cons v vt => simp [spl, ih vt (by simpa using h)]
theorem spl_two : ∀ (zs vs us : List Value), zs.length = vs.length + us.length → spl (spl zs 0 vs) vs.length us = vs ++ us := by
 intro zs vs us h
 apply List.ext_getElem?
 intro i
 rw [spl_get, spl_get, length_spl]
 by_cases h1 : i < vs.length
 ·rw [if_neg (by omega), if_pos (by omega), List.getElem?_append_left h1]; simp
 by_cases h2 : i < zs.length
 ·rw [if_pos (by omega), List.getElem?_append_right (by omega)]
 rw [if_neg (by omega), if_neg (by omega), List.getElem?_eq_none (by omega), List.getElem?_eq_none (by simp; omega)]

theorem HL_buildSlice0 {te sz : Nat} {agg : Bool} {z : Value} (hd : Nat.blt d N = true) (hT : P.underlying T = some (.slice te)) (hte : Ty P te agg sz) (hz : TyZ P te z)
  (k : ∀ b, HL P ops Q N ((d, .slice (some ⟨b, 0, none⟩) 0 0) :: F) E R (blk b [] te :: As) l) : HL P ops Q N F E R As (⟨some d, .buildSlice T 0 #[], ty, pos, af, none⟩ :: l) :=
 HL_buildSlice (ps := []) (qs := []) (cs := []) hd hT hte hz (by simp) rfl rfl rfl (fun zs h => by
  have : zs = [] := by simpa using h
  subst this; rfl) k
theorem HL_buildSlice1 {te sz : Nat} {agg : Bool} {z : Value} {vs : List Value} (hd : Nat.blt d N = true) (hT : P.underlying T = some (.slice te)) (hte : Ty P te agg sz) (hz : TyZ P te z) (hsm : Nat.ble sz 16777216 = true)
  (hx : ev F x = some v) (hv : v.cells = vs.toArray) (hl : Nat.beq vs.length sz = true)
  (k : ∀ b, HL P ops Q N ((d, .slice (some ⟨b, 0, none⟩) 1 1) :: F) E R (blk b vs te :: As) l) : HL P ops Q N F E R As (⟨some d, .buildSlice T 1 #[(0, x)], ty, pos, af, none⟩ :: l) :=
 HL_buildSlice (ps := [(0, x)]) (pvs := [v]) (qs := [vs]) (cs := vs) hd hT hte hz (by simpa using hsm) (by simp [evs, hx]) (by simp [hv]) rfl (fun zs h => by
  have hl' := Nat.eq_of_beq_eq_true hl
  have h1 : (List.range 1) = [0] := rfl
  simp only [h1, List.map_cons, List.map_nil, List.zip_cons_cons, List.zip_nil_right, bld, List.getElem?_cons_zero, Nat.zero_mul]
  rw [show (Nat.beq vs.length sz && Nat.ble (0 + vs.length) zs.length) = true by simp [hl']; omega]
  simp [spl_all zs vs (by omega)]) k
theorem HL_buildSlice2 {te sz : Nat} {agg : Bool} {z : Value} {vs us : List Value} (hd : Nat.blt d N = true) (hT : P.underlying T = some (.slice te)) (hte : Ty P te agg sz) (hz : TyZ P te z) (hsm : Nat.ble (2 * sz) 16777216 = true)
  (hx : ev F x = some v) (hv : v.cells = vs.toArray) (hl : Nat.beq vs.length sz = true) (hy : ev F y = some u) (hu : u.cells = us.toArray) (hl2 : Nat.beq us.length sz = true)
  (k : ∀ b, HL P ops Q N ((d, .slice (some ⟨b, 0, none⟩) 2 2) :: F) E R (blk b (vs ++ us) te :: As) l) : HL P ops Q N F E R As (⟨some d, .buildSlice T 2 #[(0, x), (1, y)], ty, pos, af, none⟩ :: l) :=
 HL_buildSlice (ps := [(0, x), (1, y)]) (pvs := [v, u]) (qs := [vs, us]) (cs := vs ++ us) hd hT hte hz (by simpa using hsm) (by simp [evs, hx, hy]) (by simp [hv, hu]) rfl (fun zs h => by
  have hl' := Nat.eq_of_beq_eq_true hl
  have hl2' := Nat.eq_of_beq_eq_true hl2
  have h1 : (List.range 2) = [0, 1] := rfl
  simp only [h1, List.map_cons, List.map_nil, List.zip_cons_cons, List.zip_nil_right, bld, List.getElem?_cons_zero, List.getElem?_cons_succ, Nat.zero_mul, Nat.one_mul]
  rw [show (Nat.beq vs.length sz && Nat.ble (0 + vs.length) zs.length) = true by simp [hl']; omega]
  simp only [cond_true, length_spl]
  rw [show (Nat.beq us.length sz && Nat.ble (sz + us.length) zs.length) = true by simp [hl2']; omega]
  have := spl_two zs vs us (by omega)
  rw [hl'] at this
  simp [this]) k

/-! ## append -/

/-- A slice that the call owns: it begins a block of its own, whose first cells are 'xs'. -/
def OwnS (te sz : Nat) (v : Value) (n : Nat) (xs : List Value) (e : Ent) : Prop :=
 xs.length = n * sz ∧ ((v = .slice none 0 0 ∧ n = 0 ∧ e = .emp) ∨
  ∃ g cap cur, v = .slice (some ⟨g, 0, none⟩) n cap ∧ e = .obj g (.cells ⟨cur⟩ te (0, 0)) ∧ n ≤ cap ∧ cap ≤ maxLen ∧ cur.length = cap * sz ∧ cur.take (n * sz) = xs)

theorem OwnS.nil (te sz : Nat) : OwnS te sz (.slice none 0 0) 0 [] .emp := ⟨by simp, .inl ⟨rfl, rfl, rfl⟩⟩

/-- What is owned, in its place. -/
inductive Pl : List Ent → Ent → (Ent → List Ent) → Prop
 | here {e l} : Pl (e :: l) e (fun x => x :: l)
 | there {y e l C} : Pl l e C → Pl (y :: l) e (fun x => y :: C x)

theorem Pl.split {l e C} (h : Pl l e C) : ∃ p q, l = p ++ e :: q ∧ ∀ x, C x = p ++ x :: q := by
 induction h with
 | here => exact ⟨[], _, rfl, fun _ => rfl⟩
 | there _ ih =>
  obtain ⟨p, q, rfl, h⟩ := ih
  exact ⟨_ :: p, q, rfl, fun x => by simp [h x]⟩

theorem St.swap {E w R p q e e'} (h : St E w R (p ++ e :: q)) {w' : World} (hos : w'.os = w.os) (ht : w'.tape = w.tape) (hout : w'.output = w.output)
  (hold : ∀ k, k < w.heap.size → Ent.id e ≠ some k → w'.heap[k]? = w.heap[k]?)
  (hnew : ∀ b o, e' = .obj b o → w'.heap[b]? = some o ∧ (Ent.id e = some b ∨ w.heap.size ≤ b)) : St E w' R (p ++ e' :: q) := by
 have hRne : ∀ b o, R b = some o → Ent.id e ≠ some b := fun b o hb hid => by
  cases e with
  | emp => cases hid
  | obj b' o' =>
   simp only [Ent.id, Option.some.injEq] at hid
   subst hid
   rw [h.apart b' o' (by simp)] at hb; cases hb
 have hpq : ∀ b o, Ent.obj b o ∈ p ++ q → Ent.id e ≠ some b := fun b o hb hid => by
  cases e with
  | emp => cases hid
  | obj b' o' =>
   simp only [Ent.id, Option.some.injEq] at hid
   exact id_ne h.nodup hb hid.symm
 have hmem : ∀ b o, Ent.obj b o ∈ p ++ q → Ent.obj b o ∈ p ++ e :: q := fun b o hb => by
  rcases List.mem_append.1 hb with x | x <;> simp [x]
 refine ⟨hos.trans h.os, ht.trans h.tape, hout.trans h.output, fun b o hb => ?_, fun b o hb => ?_, fun b o hb => ?_, ?_⟩
 ·rw [hold b (h.lt hb) (hRne b o hb)]; exact h.sees b o hb
 ·rcases mem_replace (e := e) hb with he | hb
  ·exact (hnew b o he.symm).1
  rw [hold b (h.lt_own (hmem b o hb)) (hpq b o hb)]; exact h.own b o (hmem b o hb)
 ·rcases mem_replace (e := e) hb with he | hb
  ·rcases (hnew b o he.symm).2 with hid | hge
   ·cases hR : R b with
    | none => rfl
    | some o2 => exact absurd hid (hRne b o2 hR)
   cases hR : R b with
   | none => rfl
   | some o2 => exact absurd (h.lt hR) (by omega)
  exact h.apart b o (hmem b o hb)
 have hn := h.nodup
 simp only [List.filterMap_append, List.filterMap_cons] at hn ⊢
 cases he' : Ent.id e' with
 | none =>
  cases he : Ent.id e with
  | none => simpa [he] using hn
  | some k =>
   rw [he] at hn
   simp only at hn ⊢
   rw [List.nodup_append] at hn ⊢
   exact ⟨hn.1, (List.nodup_cons.1 hn.2.1).2, fun a ha c hc => hn.2.2 a ha c (List.mem_cons_of_mem _ hc)⟩
 | some b =>
  have hb : b ∉ (p ++ q).filterMap Ent.id := by
   intro hm
   obtain ⟨x, hx, hid⟩ := List.mem_filterMap.1 hm
   cases x with
   | emp => cases hid
   | obj b2 o2 =>
    simp only [Ent.id, Option.some.injEq] at hid
    subst hid
    cases e' with
    | emp => cases he'
    | obj b3 o3 =>
     simp only [Ent.id, Option.some.injEq] at he'
     subst he'
     rcases (hnew b3 o3 rfl).2 with hid | hge
     ·exact hpq b3 o2 hx hid
     exact absurd (h.lt_own (hmem b3 o2 hx)) (by omega)
  have hpq' : ((p ++ q).filterMap Ent.id).Nodup := by
   simp only [List.filterMap_append]
   cases he : Ent.id e with
   | none => simpa [he] using hn
   | some k =>
    rw [he] at hn
    simp only at hn
    rw [List.nodup_append] at hn ⊢
    exact ⟨hn.1, (List.nodup_cons.1 hn.2.1).2, fun a ha c hc => hn.2.2 a ha c (List.mem_cons_of_mem _ hc)⟩
  simp only [List.filterMap_append] at hb hpq' ⊢
  rw [List.nodup_append] at hpq' ⊢
  refine ⟨hpq'.1, List.nodup_cons.2 ⟨fun h => hb (List.mem_append.2 (.inr h)), hpq'.2.1⟩, fun a ha c hc => ?_⟩
  rcases List.mem_cons.1 hc with rfl | hc
  ·rintro rfl; exact hb (List.mem_append.2 (.inl ha))
  exact hpq'.2.2 a ha c hc

theorem OwnS.owns {te sz : Nat} {v : Value} {n : Nat} {xs : List Value} {e : Ent} (h : OwnS te sz v n xs e) {E : Env} {w : World} {R : Frag} {As : List Ent} (hs : St E w R As) (hm : e ∈ As) :
  w.ownsRow 0 te sz v n xs := by
 refine ⟨h.1, ?_⟩
 rcases h.2 with ⟨h1, h2, _⟩ | ⟨g, cap, cur, h1, rfl, h3, h4, h5, h6⟩
 ·exact .inl ⟨h1, h2⟩
 exact .inr ⟨g, cap, ⟨cur⟩, h1, by omega, hs.own _ _ hm, h3, h4, by simpa using h5, by simpa using h6⟩

/-- append to a slice of the call's own. -/
theorem HL_append {t te sz bytes m c n b2 o2 : Nat} {agg : Bool} {z : Value} {s : Operand} {xs ys : List Value} {e : Ent} {C : Ent → List Ent} (hd : Nat.blt d N = true) (hT : P.underlying t = some (.slice te)) (hte : Ty P te agg sz)
  (hz : TyZ P te z) (hby : TyB P te bytes) (hzs : Nat.beq z.cells.size sz = true) (hsz : Nat.blt 0 sz = true) (hsv : ev F s = some v) (hown : OwnS te sz v n xs e) (hpl : Pl As e C)
  (hx : ev F x = some (.slice (some ⟨b2, o2, none⟩) m c)) (hr : Rd As R b2 o2 (m * sz) ys) (ho : ones ys = true) (hb1 : n + m ≤ maxLen) (hb2 : (n + m) * bytes ≤ 140737488355328)
  (k : ∀ v' e', OwnS te sz v' (n + m) (xs ++ ys) e' → HL P ops Q N ((d, v') :: F) E R (C e') l) :
  HL P ops Q N F E R As (⟨some d, .call ⟨.builtin .append, #[s, x], #[t, t]⟩, ty, pos, af, none⟩ :: l) := fun a w ha hs => by
 obtain ⟨i, hi, hisz⟩ := hte.info
 obtain ⟨i', hi', hiz⟩ := hz
 obtain ⟨i'', hi'', hib⟩ := hby
 rw [hi] at hi' hi''
 injection hi' with hi'
 injection hi'' with hi''
 subst hi'
 subst hi''
 obtain ⟨p, q, rfl, hC⟩ := hpl.split
 have hmem : e ∈ p ++ e :: q := by simp
 have hor := hown.owns hs hmem
 obtain ⟨v', w', hrun, hown', hg, _⟩ := run_append_own w 0 t ty te i z sz bytes hT hi hiz hisz hib (Nat.eq_of_beq_eq_true hzs) (by simpa using hsz) v n xs hor ⟨b2, o2, none⟩ m c ys hr.len
  (fun j u hu => by rw [Addr.add_mk]; exact hr.cells hs j u hu) (fun u hu => List.all_eq_true.1 ho u hu) hb1 hb2 (by omega)
 -- what is owned behind it
 have hid : Ent.id e = v.ownBlock := by
  rcases hown.2 with ⟨rfl, _, rfl⟩ | ⟨g, cap, cur, rfl, rfl, _⟩ <;> rfl
 obtain ⟨e', he', hnew⟩ : ∃ e', OwnS te sz v' (n + m) (xs ++ ys) e' ∧ ∀ b o, e' = .obj b o → w'.heap[b]? = some o ∧ (Ent.id e = some b ∨ w.heap.size ≤ b) := by
  rcases hown'.2 with ⟨h1, h2⟩ | ⟨g, cap, cur, h1, _, h3, h4, h5, h6, h7⟩
  ·exact ⟨.emp, ⟨hown'.1, .inl ⟨h1, h2, rfl⟩⟩, fun b o h => by cases h⟩
  refine ⟨.obj g (.cells cur te (0, 0)), ⟨hown'.1, .inr ⟨g, cap, cur.toList, h1, rfl, h4, h5, by simpa using h6, h7⟩⟩, fun b o h => ?_⟩
  injection h with hb ho'
  subst hb; subst ho'
  refine ⟨h3, ?_⟩
  rcases hown.2 with ⟨hv, hn0, he0⟩ | ⟨g0, cap0, cur0, hv, he0, k3, k4, k5, k6⟩
  ·subst hv; subst hn0
   have hx0 : xs = [] := List.eq_nil_of_length_eq_zero (by simpa using hown.1)
   subst hx0
   obtain ⟨v2, w2, hr2, ho2, _, _⟩ := run_append_own w w.heap.size t ty te i z sz bytes hT hi hiz hisz hib (Nat.eq_of_beq_eq_true hzs) (by simpa using hsz) _ 0 [] (World.ownsRow_nil w w.heap.size te sz) ⟨b2, o2, none⟩ m c ys hr.len
    (fun j u hu => by rw [Addr.add_mk]; exact hr.cells hs j u hu) (fun u hu => List.all_eq_true.1 ho u hu) hb1 hb2 (Nat.le_refl _)
   rw [hrun] at hr2
   injection hr2 with e1 _
   subst e1
   rcases ho2.2 with ⟨j1, _⟩ | ⟨g2, cap2, cur2, j1, j2, _⟩
   ·rw [h1] at j1; cases j1
   rw [h1] at j1
   injection j1 with j1 _ _
   injection j1 with j1
   injection j1 with j1 _ _
   subst j1
   exact .inr j2
  subst hv; subst he0
  have hg0 := hs.own _ _ hmem
  by_cases hroom : n + m ≤ cap0
  ·have hfit : n * i.size + ys.length ≤ (⟨cur0⟩ : Array Value).size := by
    rw [hr.len, hisz]
    simp only [List.size_toArray, k5, ← Nat.add_mul]
    exact Nat.mul_le_mul_right _ hroom
   have hr3 := run_append_room (P := P) w t ty te i hT hi g0 n cap0 ⟨cur0⟩ hg0 ⟨b2, o2, none⟩ m c ys (by rw [hr.len, hisz]) (fun j u hu => by rw [Addr.add_mk]; exact hr.cells hs j u hu) (fun u hu => List.all_eq_true.1 ho u hu) hroom hfit
   rw [hrun] at hr3
   injection hr3 with e1 _
   rw [h1] at e1
   injection e1 with e1 _ _
   injection e1 with e1
   injection e1 with e1 _ _
   subst e1
   exact .inl rfl
  have holds : ∀ j u, xs[j]? = some u → w.cell? ((⟨g0, 0, none⟩ : Addr).add j) = some u := hor.cells (g := g0) rfl
  have hr3 := run_append_grow (P := P) w t ty te i z hT hi hiz ⟨g0, 0, none⟩ n cap0 xs (by rw [hown.1, hisz]) holds ⟨b2, o2, none⟩ m c ys (by rw [hr.len, hisz]) (fun j u hu => by rw [Addr.add_mk]; exact hr.cells hs j u hu) (by omega) (by have hb1' := hb1; simp only [maxLen] at hb1'; omega) (growslice_fits (by omega) (by rw [hib]; exact hb2))
  rw [hrun] at hr3
  injection hr3 with e1 _
  rw [h1] at e1
  injection e1 with e1 _ _
  injection e1 with e1
  injection e1 with e1 _ _
  subst e1
  exact .inr (Nat.le_refl _)
 refine wp_value rfl (v := v') (w' := w') ?_ ?_
 ·show Sem.run P (do let d ← resolve a.eval _ ty; invoke d.target d.args) w = _
  simp only [resolve, Sem.run_bind, Sem.run_pure, Result.andThen_ok, invoke, builtin]
  have e1 : (#[s, x].map a.eval) = #[v, .slice (some ⟨b2, o2, none⟩) m c] := by simp [ha.eval hsv, ha.eval hx]
  rw [e1, hrun]; rfl
 have := k v' e' he' (a.put (some d) v') w' (ha.put hd) (by
  rw [hC]
  refine hs.swap hg.os hg.tape hg.output (fun k hk hne => hg.block k hk (fun e2 => hne (by rw [hid]; exact e2.symm))) hnew)
 exact this
end
end Go.Sx

/-! Data: slices that stay, values of attributes as trees, how they read in memory. Generic: no program is named. -/
namespace Go.Sx
open Go Go.RowKit

/-! ## Statements whose order is open: the form in which the walks use the rule -/
section
variable {P : Program} {ops : Array Oper} {Q : Exit → Act → World → Prop} {N : Nat} {F : List (Nat × Value)} {E : Env} {R : Frag} {As As' : List Ent}

/-- Values of some operations (each by its number and its temporary), each with what is known of it. -/
def DepP (V : Nat → Frag → Value → Prop) (R : Frag) : List (Nat × Nat) → (List (Nat × Value) → Prop) → Prop
 | [], k => k []
 | (i, d) :: t, k => ∀ v, V i R v → DepP V R t fun L => k ((d, v) :: L)

theorem DepP.dep {V : Nat → Frag → Value → Prop} {R : Frag} : ∀ {ps : List (Nat × Nat)} {k : List (Nat × Value) → Prop}, (ps.all fun p => Nat.beq (dstOf ops p.1) p.2) = true → DepP V R ps k → Dep V ops R (ps.map (·.1)) k
 | [], _, _, h => h
 | (i, d) :: t, k, hp, h => fun v hv => by
  rw [List.all_cons, Bool.and_eq_true] at hp
  have he := Nat.eq_of_beq_eq_true hp.1
  have := DepP.dep hp.2 (h v hv)
  simp only at he
  rw [← he] at this
  exact this

def Hops (P : Program) (ops : Array Oper) (N : Nat) (F : List (Nat × Value)) (E : Env) (R : Frag) (As : List Ent) (V : Nat → Frag → Value → Prop) : List (Nat × List (Nat × Nat)) → List Oper → Prop
 | (j, ps) :: js, o :: t => (∀ R1 G, Frag.le R R1 → DepP V R1 ps fun L => HL P ops (DQ N E R1 As (dstOf ops j) (V j) (L ++ F ++ G)) N (L ++ F ++ G) E R1 As [o]) ∧ Hops P ops N F E R As V js t
 | [], [] => True
 | _, _ => False

theorem Hops.get {V} : ∀ {l : List Oper} {js : List (Nat × List (Nat × Nat))} {i : Nat}, Hops P ops N F E R As V js l → js.map (·.1) = List.range' i l.length → ∀ (j : Nat) (o : Oper), l[j]? = some o →
  ∃ ps, js[j]? = some (i + j, ps) ∧ ∀ R1 G, Frag.le R R1 → DepP V R1 ps fun L => HL P ops (DQ N E R1 As (dstOf ops (i + j)) (V (i + j)) (L ++ F ++ G)) N (L ++ F ++ G) E R1 As [o]
 | [], _, _, _, _, j, o, h => by simp at h
 | p :: t, [], i, hh, _, j, o, h => hh.elim
 | p :: t, (q, ps) :: js, i, hh, hr, j, o, h => by
  simp only [List.map_cons, List.length_cons, List.range'_succ, List.cons.injEq] at hr
  obtain ⟨rfl, hr⟩ := hr
  cases j with
  | zero =>
   simp at h
   subst h
   exact ⟨ps, rfl, hh.1⟩
  | succ j =>
   obtain ⟨ps', h1, h2⟩ := hh.2.get hr j o (by simpa using h)
   have e : q + 1 + j = q + (j + 1) := by omega
   rw [e] at h1 h2
   exact ⟨ps', by simpa using h1, h2⟩

theorem HC_drawP {id : Nat} {l : List Oper} (pre : List (Nat × Nat × Value)) (k n : Nat) (V : Nat → Frag → Value → Prop) (js : List (Nat × List (Nat × Nat))) (all : List (Nat × Nat)) {ds : List Nat} (hm : P.follows .mixedOrders = true)
  (hok : drawOk l.toArray (pre.map (·.1)) k n = true) (hk : Nat.ble k l.length = true) (hds : dsts (l.take k) = some ds) (hnd : ds.Nodup) (hF : (ds.all fun d => (lk F d).isNone) = true)
  (hjs : js.map (·.1) = List.range' 0 k) (hall : all.map (·.1) = List.range k) (halld : (all.all fun p => Nat.beq (dstOf l.toArray p.1) p.2) = true)
  (hdep : (js.all fun q => q.2.all fun p => Nat.blt p.1 k && Nat.beq (dstOf l.toArray p.1) p.2 && match l[q.1]? with | some o => o.after.toList.any fun e => Region.binds .any e && Nat.beq e.on p.1 | none => false) = true)
  (hprek : ((pre.map (·.1)).all fun i => Nat.blt i k) = true) (hsel : pre ≠ [] → Region.noSelect l.toArray = true) (hQ : ∀ c d v a w, Q (.panic c) (a.put d v) w → Q (.panic c) a w) (hpreR : PreR P l N F pre) (hpreOk : preOk l.toArray (Array.replicate l.length false) (pre.map (·.1)) = true) (hprend : (pre.map (·.1)).Nodup) (hpreV : ∀ p ∈ pre, ∀ R, V p.1 R p.2.2)
  (hmono : ∀ j R R' v, Frag.le R R' → V j R v → V j R' v)
  (hop : Hops P l.toArray N F E R As V js (l.take k))
  (htail : ∀ R1, Frag.le R R1 → DepP V R1 all fun L => HL P l.toArray Q N (L ++ F) E R1 As (l.drop k)) :
  HC P Q N F E R As (.region id l.toArray true) := by
 have hk' : k ≤ l.length := by simpa using hk
 have hlen : (l.take k).length = k := by simp; omega
 refine HC_draw pre k n V (fun j => ((js[j]?).map fun q => q.2.map (·.1)).getD []) hm hok hprek hsel hQ hpreR hpreOk hprend hpreV hk hds hnd hF ?_ hmono (fun j o hj hjk => ?_) (fun R1 hle => ?_)
 ·rw [List.all_eq_true]
  intro j hj
  rw [List.all_eq_true]
  intro i hi
  have hjk : j < k := by simpa using hj
  cases hq : js[j]? with
  | none => rw [hq] at hi; simp at hi
  | some q =>
   rw [hq] at hi
   simp only [Option.map_some, Option.getD_some, List.mem_map] at hi
   obtain ⟨p, hp, rfl⟩ := hi
   have h1 := List.all_eq_true.1 (List.all_eq_true.1 hdep q (List.mem_of_getElem? hq)) p hp
   have hqj : q.1 = j := by
    have : (js.map (·.1))[j]? = some q.1 := by simp [hq]
    rw [hjs] at this
    rw [List.getElem?_range' hjk] at this
    simp at this
    omega
   rw [hqj, Bool.and_eq_true, Bool.and_eq_true] at h1
   rw [Bool.and_eq_true]
   refine ⟨h1.1.1, ?_⟩
   have h2 := h1.2
   cases hl : l[j]? with
   | none => rw [hl] at h2; cases h2
   | some o => rw [hl] at h2; simpa using h2
 ·obtain ⟨ps, h1, h2⟩ := hop.get (i := 0) (by rw [hlen]; exact hjs) j o (by rw [List.getElem?_take, if_pos hjk]; exact hj)
  simp only [Nat.zero_add] at h1 h2
  intro R1 G hle
  rw [h1]
  simp only [Option.map_some, Option.getD_some]
  refine DepP.dep ?_ (h2 R1 G hle)
  rw [List.all_eq_true]
  intro p hp
  have := List.all_eq_true.1 (List.all_eq_true.1 hdep _ (List.mem_of_getElem? h1)) p hp
  rw [Bool.and_eq_true, Bool.and_eq_true] at this
  exact this.1.2
 rw [← hall]
 exact DepP.dep halld (htail R1 hle)

theorem HC_drawH {id : Nat} {l : List Oper} (k n : Nat) (V : Nat → Frag → Value → Prop) (js : List (Nat × List (Nat × Nat))) (all : List (Nat × Nat)) {ds : List Nat} (hm : P.follows .mixedOrders = true)
  (hok : drawOk l.toArray [] k n = true) (hk : Nat.ble k l.length = true) (hds : dsts (l.take k) = some ds) (hnd : ds.Nodup) (hF : (ds.all fun d => (lk F d).isNone) = true)
  (hjs : js.map (·.1) = List.range' 0 k) (hall : all.map (·.1) = List.range k) (halld : (all.all fun p => Nat.beq (dstOf l.toArray p.1) p.2) = true)
  (hdep : (js.all fun q => q.2.all fun p => Nat.blt p.1 k && Nat.beq (dstOf l.toArray p.1) p.2 && match l[q.1]? with | some o => o.after.toList.any fun e => Region.binds .any e && Nat.beq e.on p.1 | none => false) = true) (hQ : ∀ c d v a w, Q (.panic c) (a.put d v) w → Q (.panic c) a w)
  (hmono : ∀ j R R' v, Frag.le R R' → V j R v → V j R' v)
  (hop : Hops P l.toArray N F E R As V js (l.take k))
  (htail : ∀ R1, Frag.le R R1 → DepP V R1 all fun L => HL P l.toArray Q N (L ++ F) E R1 As (l.drop k)) :
  HC P Q N F E R As (.region id l.toArray true) :=
 HC_drawP [] k n V js all hm hok hk hds hnd hF hjs hall halld hdep rfl (fun h => absurd rfl h) hQ (.nil _) rfl List.nodup_nil (fun _ h => by cases h) hmono hop htail

theorem PreR.move {l : List Oper} {j d : Nat} {x : Operand} {v : Value} {rest ty pos af} (ho : l[j]? = some ⟨some d, .move x, ty, pos, af, none⟩) (hd : Nat.blt d N = true) (hx : ev F x = some v) (h : PreR P l N ((d, v) :: F) rest) : PreR P l N F ((j, d, v) :: rest) :=
 .cons _ _ _ _ _ _ ho rfl rfl hd (fun a w ha => by simp [execOp, ha.eval hx]) h
theorem PreR.add {l : List Oper} {j d : Nat} {x y : Operand} {a b : Int} {T yT rest ty pos af} (ho : l[j]? = some ⟨some d, .binOp .add T x y yT, ty, pos, af, none⟩) (hd : Nat.blt d N = true) (hx : ev F x = some (.int .i64 a)) (hy : ev F y = some (.int .i64 b))
  (h1 : -9223372036854775808 ≤ a + b) (h2 : a + b ≤ 9223372036854775807) (h : PreR P l N ((d, .int .i64 (a + b)) :: F) rest) : PreR P l N F ((j, d, .int .i64 (a + b)) :: rest) :=
 .cons _ _ _ _ _ _ ho rfl rfl hd (fun q w ha => by simp [execOp, eqGuard, binOp, Op.intArith, ha.eval hx, ha.eval hy, IntWalk.i64_in _ ⟨h1, h2⟩]) h
theorem PreR.sub {l : List Oper} {j d : Nat} {x y : Operand} {a b : Int} {T yT rest ty pos af} (ho : l[j]? = some ⟨some d, .binOp .sub T x y yT, ty, pos, af, none⟩) (hd : Nat.blt d N = true) (hx : ev F x = some (.int .i64 a)) (hy : ev F y = some (.int .i64 b))
  (h1 : -9223372036854775808 ≤ a - b) (h2 : a - b ≤ 9223372036854775807) (h : PreR P l N ((d, .int .i64 (a - b)) :: F) rest) : PreR P l N F ((j, d, .int .i64 (a - b)) :: rest) :=
 .cons _ _ _ _ _ _ ho rfl rfl hd (fun q w ha => by simp [execOp, eqGuard, binOp, Op.intArith, ha.eval hx, ha.eval hy, IntWalk.i64_in _ ⟨h1, h2⟩]) h

theorem HQ_dq1 {R₀ : Frag} {d : Nat} {V : Frag → Value → Prop} {G : List (Nat × Value)} {v : Value} (hle : Frag.le R₀ R) (hv : V R v) (ht : Tail As As') :
  HQ (DQ N E R₀ As' d V G) N ((d, v) :: G) E R As .normal := fun _ _ ha hst => ⟨v, R, hle, hv, ha, hst.tail ht⟩
end

/-! ## Slices that stay -/

/-- A slice whose elements stay: each element's cells. -/
def SlR (R : Frag) (sz : Nat) (v : Value) (es : List (List Value)) : Prop :=
 ∃ p cap, v = .slice p es.length cap ∧ (es ≠ [] → ∃ b off, p = some ⟨b, off, none⟩ ∧ ∀ i vs, es[i]? = some vs → RdR R b (off + i * sz) sz vs)

theorem SlR.mono {R R' : Frag} (hle : Frag.le R R') {sz v es} (h : SlR R sz v es) : SlR R' sz v es := by
 obtain ⟨p, cap, h1, h2⟩ := h
 refine ⟨p, cap, h1, fun hne => ?_⟩
 obtain ⟨b, off, h3, h4⟩ := h2 hne
 exact ⟨b, off, h3, fun i vs hi => (h4 i vs hi).mono hle⟩

theorem SlR.nil (R : Frag) (sz : Nat) (p : Option Addr) (cap : Nat) : SlR R sz (.slice p 0 cap) [] := ⟨p, cap, rfl, fun h => absurd rfl h⟩

theorem flatten_cut (sz : Nat) : ∀ (es : List (List Value)) (rest : List Value), (∀ c ∈ es, c.length = sz) → ∀ i vs, es[i]? = some vs → cut (es.flatten ++ rest) (i * sz) sz = some vs := by
 intro es
 induction es with
 | nil => intro rest _ i vs h; simp at h
 | cons c t ih =>
  intro rest hl i vs h
  have hc := hl c (by simp)
  rw [cut_eq]
  cases i with
  | zero =>
   simp only [List.getElem?_cons_zero, Option.some.injEq] at h
   subst h
   simp [← hc]
  | succ i =>
   have := ih rest (fun c hc => hl c (by simp [hc])) i vs (by simpa using h)
   rw [cut_eq] at this
   simp only [List.flatten_cons, List.append_assoc, List.length_append] at this ⊢
   obtain ⟨h1, h2⟩ := this
   have e : (i + 1) * sz = sz + i * sz := by rw [Nat.add_mul]; omega
   rw [e]
   refine ⟨by omega, ?_⟩
   rw [← hc, ← List.drop_drop, List.drop_left, hc]
   exact h2

theorem SlR.of_block {R : Frag} {b cap te : Nat} {fr : Nat × Nat} {es : List (List Value)} {rest : List Value} {sz : Nat} (hb : R b = some (.cells ⟨es.flatten ++ rest⟩ te fr)) (hl : ∀ c ∈ es, c.length = sz) :
  SlR R sz (.slice (some ⟨b, 0, none⟩) es.length cap) es :=
 ⟨_, cap, rfl, fun _ => ⟨b, 0, rfl, fun i vs hi => ⟨_, _, _, hb, by rw [Nat.zero_add]; exact flatten_cut sz es rest hl i vs hi⟩⟩⟩

/-- What the call owns is laid down: it stays as it is from here on. -/
theorem OwnS.sealUp {te sz : Nat} {v : Value} {n : Nat} {es : List (List Value)} {e : Ent} (h : OwnS te sz v n es.flatten e) (hn : n = es.length) (hl : ∀ c ∈ es, c.length = sz) {E : Env} {w : World} {R : Frag} {As As' : List Ent}
  (hs : St E w R As) (ho : Out As e As') : ∃ R', Frag.le R R' ∧ SlR R' sz v es ∧ St E w R' As' := by
 subst hn
 rcases h.2 with ⟨rfl, h2, rfl⟩ | ⟨g, cap, cur, rfl, rfl, h3, h4, h5, h6⟩
 ·have : es = [] := List.eq_nil_of_length_eq_zero h2
  subst this
  exact ⟨R, Frag.le_refl R, SlR.nil R sz none 0, hs.drop ho⟩
 obtain ⟨R', h7, h8, h9⟩ := hs.sealUp ho
 refine ⟨R', h7, ?_, h9⟩
 have hcur : cur = es.flatten ++ cur.drop (es.length * sz) := by
  rw [← h6, List.take_append_drop]
 rw [hcur] at h8
 exact SlR.of_block h8 hl

section
variable {P : Program} {ops : Array Oper} {Q : Exit → Act → World → Prop} {N : Nat} {F : List (Nat × Value)} {E : Env} {R : Frag} {As As' : List Ent}
theorem HL_sealS {l te sz v n es e} (ho : Out As e As') (h : OwnS te sz v n es.flatten e) (hn : n = es.length) (hl : ∀ c ∈ es, c.length = sz) (k : ∀ R', Frag.le R R' → SlR R' sz v es → HL P ops Q N F E R' As' l) : HL P ops Q N F E R As l := fun a w ha hs => by
 obtain ⟨R', h1, h2, h3⟩ := h.sealUp hn hl hs ho
 exact k R' h1 h2 a w ha h3
theorem HQ_sealS {x te sz v n es e} (ho : Out As e As') (h : OwnS te sz v n es.flatten e) (hn : n = es.length) (hl : ∀ c ∈ es, c.length = sz) (k : ∀ R', Frag.le R R' → SlR R' sz v es → HQ Q N F E R' As' x) : HQ Q N F E R As x := fun a w ha hs => by
 obtain ⟨R', h1, h2, h3⟩ := h.sealUp hn hl hs ho
 exact k R' h1 h2 a w ha h3
end

/-! ## Values of attributes as trees -/

inductive V where
 | mk (kind num : Int) (text : ByteArray) (nums : List Int) (texts : List ByteArray) (kids : List V) (pairs : List (ByteArray × V))

abbrev Pr := ByteArray × V

def numCells (l : List Int) : List (List Value) := l.map fun n => [.int .u64 n]
def txtCells (l : List ByteArray) : List (List Value) := l.map fun t => [.string t]
def prCells (ps : List Pr) (es : List (List Value)) : List (List Value) := List.zipWith (fun p e => Value.string p.1 :: e) ps es

/-- How a value of the reference's or of the thin package's type reads: seven cells. -/
inductive RepV (R : Frag) : V → List Value → Prop
 | mk {k n t nums texts kids pairs s1 s2 s3 s4 es ps} : SlR R 1 s1 (numCells nums) → SlR R 1 s2 (txtCells texts) →
   SlR R 7 s3 es → es.length = kids.length → (∀ (i : Nat) e v, es[i]? = some e → kids[i]? = some v → RepV R v e) →
   SlR R 8 s4 (prCells pairs ps) → ps.length = pairs.length → (∀ (i : Nat) e p, ps[i]? = some e → pairs[i]? = some p → RepV R p.2 e) →
   RepV R (.mk k n t nums texts kids pairs) [.int .u8 k, .int .u64 n, .string t, s1, s2, s3, s4]

theorem RepV.mono {R R' : Frag} (hle : Frag.le R R') {v cs} (h : RepV R v cs) : RepV R' v cs := by
 induction h with
 | mk h1 h2 h3 h4 _ h6 h7 _ ih5 ih8 => exact .mk (h1.mono hle) (h2.mono hle) (h3.mono hle) h4 ih5 (h6.mono hle) h7 ih8

theorem RepV.len {R : Frag} {v cs} (h : RepV R v cs) : cs.length = 7 := by cases h; rfl
theorem RepV.onesT {R : Frag} {v cs} (h : RepV R v cs) : ones cs = true := by
 cases h with
 | mk h1 h2 h3 _ _ h6 _ _ =>
  obtain ⟨_, _, rfl, _⟩ := h1
  obtain ⟨_, _, rfl, _⟩ := h2
  obtain ⟨_, _, rfl, _⟩ := h3
  obtain ⟨_, _, rfl, _⟩ := h6
  rfl

/-- A list of values; a list of attributes: as slices that stay. -/
def RepL (R : Frag) (v : Value) (kids : List V) : Prop := ∃ es, SlR R 7 v es ∧ es.length = kids.length ∧ ∀ (i : Nat) e u, es[i]? = some e → kids[i]? = some u → RepV R u e
def RepP (R : Frag) (v : Value) (pairs : List Pr) : Prop := ∃ ps, SlR R 8 v (prCells pairs ps) ∧ ps.length = pairs.length ∧ ∀ (i : Nat) e p, ps[i]? = some e → pairs[i]? = some p → RepV R p.2 e

theorem RepL.mono {R R' : Frag} (hle : Frag.le R R') {v l} (h : RepL R v l) : RepL R' v l := by
 obtain ⟨es, h1, h2, h3⟩ := h
 exact ⟨es, h1.mono hle, h2, fun i e u a b => (h3 i e u a b).mono hle⟩
theorem RepP.mono {R R' : Frag} (hle : Frag.le R R') {v l} (h : RepP R v l) : RepP R' v l := by
 obtain ⟨es, h1, h2, h3⟩ := h
 exact ⟨es, h1.mono hle, h2, fun i e u a b => (h3 i e u a b).mono hle⟩

theorem RepV.parts {R : Frag} {k n t nums texts kids pairs cs} (h : RepV R (.mk k n t nums texts kids pairs) cs) :
  ∃ s1 s2 s3 s4, cs = [.int .u8 k, .int .u64 n, .string t, s1, s2, s3, s4] ∧ SlR R 1 s1 (numCells nums) ∧ SlR R 1 s2 (txtCells texts) ∧ RepL R s3 kids ∧ RepP R s4 pairs := by
 cases h with
 | mk h1 h2 h3 h4 h5 h6 h7 h8 => exact ⟨_, _, _, _, rfl, h1, h2, ⟨_, h3, h4, h5⟩, ⟨_, h6, h7, h8⟩⟩
theorem RepV.of {R : Frag} {k n t nums texts kids pairs s1 s2 s3 s4} (h1 : SlR R 1 s1 (numCells nums)) (h2 : SlR R 1 s2 (txtCells texts)) (h3 : RepL R s3 kids) (h4 : RepP R s4 pairs) :
  RepV R (.mk k n t nums texts kids pairs) [.int .u8 k, .int .u64 n, .string t, s1, s2, s3, s4] := by
 obtain ⟨es, a1, a2, a3⟩ := h3
 obtain ⟨ps, b1, b2, b3⟩ := h4
 exact .mk h1 h2 a1 a2 a3 b1 b2 b3

theorem prCells_get {ps : List Pr} {es : List (List Value)} {i : Nat} {p : Pr} {e : List Value} (h1 : ps[i]? = some p) (h2 : es[i]? = some e) : (prCells ps es)[i]? = some (.string p.1 :: e) := by
 simp [prCells, List.getElem?_zipWith, h1, h2]
theorem prCells_length {ps : List Pr} {es : List (List Value)} (h : es.length = ps.length) : (prCells ps es).length = ps.length := by simp [prCells, h]

theorem RepL.slice {R : Frag} {v l} (h : RepL R v l) : ∃ p cap, v = .slice p l.length cap := by
 obtain ⟨es, ⟨p, cap, h1, _⟩, h2, _⟩ := h
 exact ⟨p, cap, by rw [h1, h2]⟩
theorem RepP.slice {R : Frag} {v l} (h : RepP R v l) : ∃ p cap, v = .slice p l.length cap := by
 obtain ⟨es, ⟨p, cap, h1, _⟩, h2, _⟩ := h
 exact ⟨p, cap, by rw [h1, prCells_length h2]⟩
/-- An element of such a list. -/
theorem RepL.get {R : Frag} {p cap n l} (h : RepL R (.slice p n cap) l) {i : Nat} (hi : i < l.length) : ∃ b off e, p = some ⟨b, off, none⟩ ∧ RdR R b (off + i * 7) 7 e ∧ RepV R l[i] e := by
 obtain ⟨es, ⟨p', cap', h1, h2⟩, h3, h4⟩ := h
 injection h1 with h1 _ _
 subst h1
 obtain ⟨b, off, h5, h6⟩ := h2 (fun e => by rw [e] at h3; simp at h3; omega)
 have hie : i < es.length := by omega
 exact ⟨b, off, es[i], h5, h6 i _ (by simp [hie]), h4 i _ _ (by simp [hie]) (by simp [hi])⟩
theorem RepP.get {R : Frag} {p cap n l} (h : RepP R (.slice p n cap) l) {i : Nat} (hi : i < l.length) : ∃ b off e, p = some ⟨b, off, none⟩ ∧ RdR R b (off + i * 8) 8 (.string l[i].1 :: e) ∧ RepV R l[i].2 e := by
 obtain ⟨es, ⟨p', cap', h1, h2⟩, h3, h4⟩ := h
 injection h1 with h1 _ _
 subst h1
 obtain ⟨b, off, h5, h6⟩ := h2 (fun e => by
  have := prCells_length h3
  rw [e] at this; simp at this; omega)
 have hie : i < es.length := by omega
 exact ⟨b, off, es[i], h5, h6 i _ (prCells_get (by simp [hi]) (by simp [hie])), h4 i _ _ (by simp [hie]) (by simp [hi])⟩

theorem RepV.seven {R : Frag} {v : V} {e : List Value} (h : RepV R v e) : ∃ c0 c1 c2 c3 c4 c5 c6, e = [c0, c1, c2, c3, c4, c5, c6] ∧ ones [c0, c1, c2, c3, c4, c5, c6] = true := by
 have ho := h.onesT
 cases h with
 | mk => exact ⟨_, _, _, _, _, _, _, rfl, ho⟩

section
variable {P : Program} {ops : Array Oper} {Q : Exit → Act → World → Prop} {N : Nat} {F : List (Nat × Value)} {E : Env} {R : Frag} {As As' : List Ent}
theorem St.emp {w : World} (h : St E w R As) : St E w R (.emp :: As) :=
 ⟨h.os, h.tape, h.output, h.sees, fun b o hb => h.own b o (by simpa using hb), fun b o hb => h.apart b o (by simpa using hb), by simpa [List.filterMap_cons, Ent.id] using h.nodup⟩
theorem HC_emp {c} (h : HC P Q N F E R (.emp :: As) c) : HC P Q N F E R As c := fun a w ha hs => h a w ha hs.emp
theorem HL_emp {l} (h : HL P ops Q N F E R (.emp :: As) l) : HL P ops Q N F E R As l := fun a w ha hs => h a w ha hs.emp
end

/-- One more chunk behind the others. -/
theorem OwnS.snoc {te sz : Nat} {v : Value} {n : Nat} {cs : List (List Value)} {c : List Value} {e : Ent} (h : OwnS te sz v (n + 1) (cs.flatten ++ c) e) : OwnS te sz v (n + 1) (cs ++ [c]).flatten e := by
 simpa using h
theorem prCells_snoc {ps : List Pr} {es : List (List Value)} {i : Nat} {p : Pr} {c : List Value} (hp : ps[i]? = some p) (hes : es.length = i) :
  prCells (ps.take (i + 1)) (es ++ [c]) = prCells (ps.take i) es ++ [.string p.1 :: c] := by
 have hlt : i < ps.length := (List.getElem?_eq_some_iff.1 hp).1
 rw [List.take_add_one, hp]
 unfold prCells
 rw [List.zipWith_append (by simp; omega)]
 rfl
theorem getElem?_snoc {α : Type} {l : List α} {a x : α} {i j : Nat} (hl : l.length = i) (h : (l ++ [a])[j]? = some x) : (j < i ∧ l[j]? = some x) ∨ (j = i ∧ x = a) := by
 rcases Nat.lt_trichotomy j i with hj | hj | hj
 ·rw [List.getElem?_append_left (by omega)] at h
  exact .inl ⟨hj, h⟩
 ·subst hj
  rw [List.getElem?_append_right (by omega)] at h
  simp [hl] at h
  exact .inr ⟨rfl, h.symm⟩
 rw [List.getElem?_eq_none (by simp; omega)] at h
 cases h
theorem prCells_len {R : Frag} {ps : List Pr} {es : List (List Value)} (hl : es.length = ps.length) (h : ∀ (j : Nat) c q, es[j]? = some c → ps[j]? = some q → RepV R q.2 c) : ∀ c ∈ prCells ps es, c.length = 8 := by
 intro c hc
 obtain ⟨j, hj, hjc⟩ := List.getElem_of_mem hc
 have hlen := prCells_length hl
 have hj1 : j < ps.length := by omega
 have hj2 : j < es.length := by omega
 have h1 := prCells_get (ps := ps) (es := es) (i := j) (p := ps[j]) (e := es[j]) (List.getElem?_eq_getElem hj1) (List.getElem?_eq_getElem hj2)
 rw [List.getElem?_eq_getElem hj, hjc] at h1
 injection h1 with h1
 rw [h1, List.length_cons, (h j _ _ (List.getElem?_eq_getElem hj2) (List.getElem?_eq_getElem hj1)).len]
theorem rep_len {R : Frag} {ks : List V} {es : List (List Value)} (hl : es.length = ks.length) (h : ∀ (j : Nat) c q, es[j]? = some c → ks[j]? = some q → RepV R q c) : ∀ c ∈ es, c.length = 7 := by
 intro c hc
 obtain ⟨j, hj, hjc⟩ := List.getElem_of_mem hc
 have hj1 : j < ks.length := by omega
 exact (h j c ks[j] (by rw [List.getElem?_eq_getElem hj, hjc]) (List.getElem?_eq_getElem hj1)).len
theorem OwnS.one {te sz : Nat} {v : Value} {n : Nat} {xs : List Value} {e : Ent} (h : OwnS te sz v n xs e) : Sx.ones [v] = true := by
 rcases h.2 with ⟨rfl, _⟩ | ⟨g, cap, cur, rfl, _⟩ <;> rfl
theorem OwnS.cells {te sz : Nat} {v : Value} {n : Nat} {xs : List Value} {e : Ent} (h : OwnS te sz v n xs e) : v.cells = [v].toArray := by
 rcases h.2 with ⟨rfl, _⟩ | ⟨g, cap, cur, rfl, _⟩ <;> rfl
theorem SlR.at {R : Frag} {sz : Nat} {p : Option Addr} {n cap : Nat} {es : List (List Value)} (h : SlR R sz (.slice p n cap) es) {i : Nat} (hi : i < es.length) : ∃ b off, p = some ⟨b, off, none⟩ ∧ RdR R b (off + i * sz) sz es[i] := by
 obtain ⟨p', cap', h1, h2⟩ := h
 injection h1 with h1 _ _
 subst h1
 obtain ⟨b, off, h3, h4⟩ := h2 (fun e => by rw [e] at hi; simp at hi)
 exact ⟨b, off, h3, h4 i _ (List.getElem?_eq_getElem hi)⟩
theorem maxLen_big (n : Nat) (h : n ≤ 1000000000000) : n ≤ maxLen := by unfold maxLen; omega

/-- A value as the reference's guard lets it in: small, and no parts but those of its kind. -/
inductive Ok : V → Prop
 | mk {k n t nums texts kids pairs} : (0 ≤ k ∧ k ≤ 11) → (0 ≤ n ∧ n ≤ 18446744073709551615) → t.size ≤ 1000 → nums.length ≤ 100 → (∀ x ∈ nums, 0 ≤ x ∧ x ≤ 18446744073709551615) →
   texts.length ≤ 100 → (∀ s ∈ texts, s.size ≤ 1000) → kids.length ≤ 100 → pairs.length ≤ 100 → (∀ v ∈ kids, Ok v) → (∀ p ∈ pairs, p.1.size ≤ 200) → (∀ p ∈ pairs, Ok p.2) →
   ((k = 1 ∨ k = 2 ∨ k = 3) ∨ n = 0) → ((k = 4 ∨ k = 9) ∨ t.size = 0) → ((k = 5 ∨ k = 6 ∨ k = 7) ∨ nums = []) → (k = 8 ∨ texts = []) → (k = 10 ∨ kids = []) → (k = 11 ∨ pairs = []) →
   (k = 1 → n ≤ 1) → (k = 5 → ∀ x ∈ nums, x ≤ 1) → Ok (.mk k n t nums texts kids pairs)

/-- Attributes as the guard lets them in. -/
def OkP (ps : List Pr) : Prop := ps.length ≤ 100 ∧ ∀ p ∈ ps, p.1.size ≤ 200 ∧ Ok p.2
end Go.Sx

/-! Closed facts on the program: its types (cells, zero values, fields), and which functions have bodies. Printed by a program of ours (wip/tools/facts.py). -/
namespace Go.Sx
open Go Go.Proofs

theorem ty2 : Ty Tryz.prog 2 false 1 := Ty.of Tryz.underlying2 rfl (by kernel_rfl)
theorem z2 : TyZ Tryz.prog 2 (.int .i64 0) := TyZ.of (by kernel_rfl)
theorem by2 : TyB Tryz.prog 2 8 := TyB.of (by kernel_rfl)
theorem ty3 : Ty Tryz.prog 3 false 1 := Ty.of Tryz.underlying3 rfl (by kernel_rfl)
theorem z3 : TyZ Tryz.prog 3 (.int .i64 0) := TyZ.of (by kernel_rfl)
theorem ty4 : Ty Tryz.prog 4 false 1 := Ty.of Tryz.underlying4 rfl (by kernel_rfl)
theorem z4 : TyZ Tryz.prog 4 (.bool false) := TyZ.of (by kernel_rfl)
theorem by4 : TyB Tryz.prog 4 1 := TyB.of (by kernel_rfl)
theorem ty5 : Ty Tryz.prog 5 false 1 := Ty.of Tryz.underlying5 rfl (by kernel_rfl)
theorem z5 : TyZ Tryz.prog 5 (.int .u8 0) := TyZ.of (by kernel_rfl)
theorem by5 : TyB Tryz.prog 5 1 := TyB.of (by kernel_rfl)
theorem ty8 : Ty Tryz.prog 8 true 4 := Ty.of Tryz.underlying8 rfl (by kernel_rfl)
theorem f8_0 : Fld Tryz.prog 8 0 0 := Fld.of (by kernel_rfl)
theorem f8_1 : Fld Tryz.prog 8 1 1 := Fld.of (by kernel_rfl)
theorem f8_2 : Fld Tryz.prog 8 2 2 := Fld.of (by kernel_rfl)
theorem f8_3 : Fld Tryz.prog 8 3 3 := Fld.of (by kernel_rfl)
theorem ty9 : Ty Tryz.prog 9 false 1 := Ty.of Tryz.underlying9 rfl (by kernel_rfl)
theorem z9 : TyZ Tryz.prog 9 (.string ⟨#[]⟩) := TyZ.of (by kernel_rfl)
theorem by9 : TyB Tryz.prog 9 16 := TyB.of (by kernel_rfl)
theorem ty10 : Ty Tryz.prog 10 false 1 := Ty.of Tryz.underlying10 rfl (by kernel_rfl)
theorem ty11 : Ty Tryz.prog 11 false 1 := Ty.of Tryz.underlying11 rfl (by kernel_rfl)
theorem ty12 : Ty Tryz.prog 12 false 1 := Ty.of Tryz.underlying12 rfl (by kernel_rfl)
theorem ty14 : Ty Tryz.prog 14 true 2 := Ty.of Tryz.underlying14 rfl (by kernel_rfl)
theorem f14_0 : Fld Tryz.prog 14 0 0 := Fld.of (by kernel_rfl)
theorem f14_1 : Fld Tryz.prog 14 1 1 := Fld.of (by kernel_rfl)
theorem ty15 : Ty Tryz.prog 15 false 1 := Ty.of Tryz.underlying15 rfl (by kernel_rfl)
theorem ty16 : Ty Tryz.prog 16 false 1 := Ty.of Tryz.underlying16 rfl (by kernel_rfl)
theorem ty17 : Ty Tryz.prog 17 false 1 := Ty.of Tryz.underlying17 rfl (by kernel_rfl)
theorem ty19 : Ty Tryz.prog 19 true 1 := Ty.of Tryz.underlying19 rfl (by kernel_rfl)
theorem f19_0 : Fld Tryz.prog 19 0 0 := Fld.of (by kernel_rfl)
theorem ty20 : Ty Tryz.prog 20 false 1 := Ty.of Tryz.underlying20 rfl (by kernel_rfl)
theorem ty21 : Ty Tryz.prog 21 false 1 := Ty.of Tryz.underlying21 rfl (by kernel_rfl)
theorem ty22 : Ty Tryz.prog 22 false 1 := Ty.of Tryz.underlying22 rfl (by kernel_rfl)
theorem ty27 : Ty Tryz.prog 27 false 1 := Ty.of Tryz.underlying27 rfl (by kernel_rfl)
theorem ty31 : Ty Tryz.prog 31 false 1 := Ty.of Tryz.underlying31 rfl (by kernel_rfl)
theorem ty48 : Ty Tryz.prog 48 false 1 := Ty.of Tryz.underlying48 rfl (by kernel_rfl)
theorem ty49 : Ty Tryz.prog 49 false 1 := Ty.of Tryz.underlying49 rfl (by kernel_rfl)
theorem ty50 : Ty Tryz.prog 50 false 1 := Ty.of Tryz.underlying50 rfl (by kernel_rfl)
theorem ty52 : Ty Tryz.prog 52 true 7 := Ty.of Tryz.underlying52 rfl (by kernel_rfl)
theorem z52 : TyZ Tryz.prog 52 (.agg #[.int .u8 0, .int .u64 0, .string ⟨#[]⟩, .slice none 0 0, .slice none 0 0, .slice none 0 0, .slice none 0 0]) := TyZ.of (by kernel_rfl)
theorem by52 : TyB Tryz.prog 52 128 := TyB.of (by kernel_rfl)
theorem f52_0 : Fld Tryz.prog 52 0 0 := Fld.of (by kernel_rfl)
theorem f52_1 : Fld Tryz.prog 52 1 1 := Fld.of (by kernel_rfl)
theorem f52_2 : Fld Tryz.prog 52 2 2 := Fld.of (by kernel_rfl)
theorem f52_3 : Fld Tryz.prog 52 3 3 := Fld.of (by kernel_rfl)
theorem f52_4 : Fld Tryz.prog 52 4 4 := Fld.of (by kernel_rfl)
theorem f52_5 : Fld Tryz.prog 52 5 5 := Fld.of (by kernel_rfl)
theorem f52_6 : Fld Tryz.prog 52 6 6 := Fld.of (by kernel_rfl)
theorem ty54 : Ty Tryz.prog 54 true 8 := Ty.of Tryz.underlying54 rfl (by kernel_rfl)
theorem z54 : TyZ Tryz.prog 54 (.agg #[.string ⟨#[]⟩, .int .u8 0, .int .u64 0, .string ⟨#[]⟩, .slice none 0 0, .slice none 0 0, .slice none 0 0, .slice none 0 0]) := TyZ.of (by kernel_rfl)
theorem by54 : TyB Tryz.prog 54 144 := TyB.of (by kernel_rfl)
theorem f54_0 : Fld Tryz.prog 54 0 0 := Fld.of (by kernel_rfl)
theorem f54_1 : Fld Tryz.prog 54 1 1 := Fld.of (by kernel_rfl)
theorem ty55 : Ty Tryz.prog 55 false 1 := Ty.of Tryz.underlying55 rfl (by kernel_rfl)
theorem ty63 : Ty Tryz.prog 63 false 1 := Ty.of Tryz.underlying63 rfl (by kernel_rfl)
theorem ty65 : Ty Tryz.prog 65 true 7 := Ty.of Tryz.underlying65 rfl (by kernel_rfl)
theorem z65 : TyZ Tryz.prog 65 (.agg #[.int .u8 0, .int .u64 0, .string ⟨#[]⟩, .slice none 0 0, .slice none 0 0, .slice none 0 0, .slice none 0 0]) := TyZ.of (by kernel_rfl)
theorem by65 : TyB Tryz.prog 65 128 := TyB.of (by kernel_rfl)
theorem f65_0 : Fld Tryz.prog 65 0 0 := Fld.of (by kernel_rfl)
theorem f65_1 : Fld Tryz.prog 65 1 1 := Fld.of (by kernel_rfl)
theorem f65_2 : Fld Tryz.prog 65 2 2 := Fld.of (by kernel_rfl)
theorem f65_3 : Fld Tryz.prog 65 3 3 := Fld.of (by kernel_rfl)
theorem f65_4 : Fld Tryz.prog 65 4 4 := Fld.of (by kernel_rfl)
theorem f65_5 : Fld Tryz.prog 65 5 5 := Fld.of (by kernel_rfl)
theorem f65_6 : Fld Tryz.prog 65 6 6 := Fld.of (by kernel_rfl)
theorem ty67 : Ty Tryz.prog 67 true 8 := Ty.of Tryz.underlying67 rfl (by kernel_rfl)
theorem z67 : TyZ Tryz.prog 67 (.agg #[.string ⟨#[]⟩, .int .u8 0, .int .u64 0, .string ⟨#[]⟩, .slice none 0 0, .slice none 0 0, .slice none 0 0, .slice none 0 0]) := TyZ.of (by kernel_rfl)
theorem by67 : TyB Tryz.prog 67 144 := TyB.of (by kernel_rfl)
theorem f67_0 : Fld Tryz.prog 67 0 0 := Fld.of (by kernel_rfl)
theorem f67_1 : Fld Tryz.prog 67 1 1 := Fld.of (by kernel_rfl)
theorem ty73 : Ty Tryz.prog 73 false 1 := Ty.of Tryz.underlying73 rfl (by kernel_rfl)
theorem ty81 : Ty Tryz.prog 81 false 1 := Ty.of Tryz.underlying81 rfl (by kernel_rfl)
theorem ty83 : Ty Tryz.prog 83 false 1 := Ty.of Tryz.underlying83 rfl (by kernel_rfl)
theorem ty84 : Ty Tryz.prog 84 false 1 := Ty.of Tryz.underlying84 rfl (by kernel_rfl)
theorem ty86 : Ty Tryz.prog 86 true 2 := Ty.of Tryz.underlying86 rfl (by kernel_rfl)
theorem z86 : TyZ Tryz.prog 86 (.agg #[.int .u64 0, .slice none 0 0]) := TyZ.of (by kernel_rfl)
theorem f86_0 : Fld Tryz.prog 86 0 0 := Fld.of (by kernel_rfl)
theorem f86_1 : Fld Tryz.prog 86 1 1 := Fld.of (by kernel_rfl)
theorem ty89 : Ty Tryz.prog 89 false 1 := Ty.of Tryz.underlying89 rfl (by kernel_rfl)
theorem ty91 : Ty Tryz.prog 91 true 2 := Ty.of Tryz.underlying91 rfl (by kernel_rfl)
theorem z91 : TyZ Tryz.prog 91 (.agg #[.pointer none, .int .i64 0]) := TyZ.of (by kernel_rfl)
theorem f91_0 : Fld Tryz.prog 91 0 0 := Fld.of (by kernel_rfl)
theorem f91_1 : Fld Tryz.prog 91 1 1 := Fld.of (by kernel_rfl)
theorem ty92 : Ty Tryz.prog 92 false 1 := Ty.of Tryz.underlying92 rfl (by kernel_rfl)
theorem ty93 : Ty Tryz.prog 93 false 1 := Ty.of Tryz.underlying93 rfl (by kernel_rfl)
theorem ty95 : Ty Tryz.prog 95 true 4 := Ty.of Tryz.underlying95 rfl (by kernel_rfl)
theorem z95 : TyZ Tryz.prog 95 (.agg #[.int .i64 0, .int .u64 0, .string ⟨#[]⟩, .nilIface]) := TyZ.of (by kernel_rfl)
theorem by95 : TyB Tryz.prog 95 48 := TyB.of (by kernel_rfl)
theorem f95_0 : Fld Tryz.prog 95 0 0 := Fld.of (by kernel_rfl)
theorem f95_1 : Fld Tryz.prog 95 1 1 := Fld.of (by kernel_rfl)
theorem f95_2 : Fld Tryz.prog 95 2 2 := Fld.of (by kernel_rfl)
theorem f95_3 : Fld Tryz.prog 95 3 3 := Fld.of (by kernel_rfl)
theorem ty97 : Ty Tryz.prog 97 true 5 := Ty.of Tryz.underlying97 rfl (by kernel_rfl)
theorem z97 : TyZ Tryz.prog 97 (.agg #[.string ⟨#[]⟩, .int .i64 0, .int .u64 0, .string ⟨#[]⟩, .nilIface]) := TyZ.of (by kernel_rfl)
theorem by97 : TyB Tryz.prog 97 64 := TyB.of (by kernel_rfl)
theorem f97_0 : Fld Tryz.prog 97 0 0 := Fld.of (by kernel_rfl)
theorem f97_1 : Fld Tryz.prog 97 1 1 := Fld.of (by kernel_rfl)
theorem ty99 : Ty Tryz.prog 99 true 8 := Ty.of Tryz.underlying99 rfl (by kernel_rfl)
theorem f99_0 : Fld Tryz.prog 99 0 0 := Fld.of (by kernel_rfl)
theorem f99_1 : Fld Tryz.prog 99 1 2 := Fld.of (by kernel_rfl)
theorem f99_2 : Fld Tryz.prog 99 2 3 := Fld.of (by kernel_rfl)
theorem ty101 : Ty Tryz.prog 101 true 21 := Ty.of Tryz.underlying101 rfl (by kernel_rfl)
theorem f101_0 : Fld Tryz.prog 101 0 0 := Fld.of (by kernel_rfl)
theorem f101_1 : Fld Tryz.prog 101 1 8 := Fld.of (by kernel_rfl)
theorem f101_2 : Fld Tryz.prog 101 2 16 := Fld.of (by kernel_rfl)
theorem ty111 : Ty Tryz.prog 111 false 1 := Ty.of Tryz.underlying111 rfl (by kernel_rfl)
theorem ty112 : Ty Tryz.prog 112 false 1 := Ty.of Tryz.underlying112 rfl (by kernel_rfl)
theorem ty113 : Ty Tryz.prog 113 false 1 := Ty.of Tryz.underlying113 rfl (by kernel_rfl)
theorem ty118 : Ty Tryz.prog 118 false 1 := Ty.of Tryz.underlying118 rfl (by kernel_rfl)
theorem ty123 : Ty Tryz.prog 123 true 1 := Ty.of Tryz.underlying123 rfl (by kernel_rfl)
theorem z123 : TyZ Tryz.prog 123 (.agg #[.int .u64 0]) := TyZ.of (by kernel_rfl)
theorem f123_0 : Fld Tryz.prog 123 0 0 := Fld.of (by kernel_rfl)
theorem ty128 : Ty Tryz.prog 128 false 1 := Ty.of Tryz.underlying128 rfl (by kernel_rfl)
theorem ty131 : Ty Tryz.prog 131 false 1 := Ty.of Tryz.underlying131 rfl (by kernel_rfl)
theorem ty139 : Ty Tryz.prog 139 true 2 := Ty.of Tryz.underlying139 rfl (by kernel_rfl)
theorem z139 : TyZ Tryz.prog 139 (.agg #[.string ⟨#[]⟩, .string ⟨#[]⟩]) := TyZ.of (by kernel_rfl)
theorem ty140 : Ty Tryz.prog 140 false 1 := Ty.of Tryz.underlying140 rfl (by kernel_rfl)
theorem ty141 : Ty Tryz.prog 141 false 1 := Ty.of Tryz.underlying141 rfl (by kernel_rfl)
theorem ty142 : Ty Tryz.prog 142 false 1 := Ty.of Tryz.underlying142 rfl (by kernel_rfl)
theorem ty143 : Ty Tryz.prog 143 false 1 := Ty.of Tryz.underlying143 rfl (by kernel_rfl)
theorem z143 : TyZ Tryz.prog 143 (.float .f64 0) := TyZ.of (by kernel_rfl)
theorem by143 : TyB Tryz.prog 143 8 := TyB.of (by kernel_rfl)
theorem ty155 : Ty Tryz.prog 155 false 1 := Ty.of Tryz.underlying155 rfl (by kernel_rfl)
theorem ty156 : Ty Tryz.prog 156 false 1 := Ty.of Tryz.underlying156 rfl (by kernel_rfl)
theorem ty157 : Ty Tryz.prog 157 false 1 := Ty.of Tryz.underlying157 rfl (by kernel_rfl)
theorem ty158 : Ty Tryz.prog 158 true 0 := Ty.of Tryz.underlying158 rfl (by kernel_rfl)
theorem ty163 : Ty Tryz.prog 163 false 1 := Ty.of Tryz.underlying163 rfl (by kernel_rfl)
theorem ty166 : Ty Tryz.prog 166 false 1 := Ty.of Tryz.underlying166 rfl (by kernel_rfl)
theorem ty168 : Ty Tryz.prog 168 true 1 := Ty.of Tryz.underlying168 rfl (by kernel_rfl)
theorem z168 : TyZ Tryz.prog 168 (.agg #[.pointer none]) := TyZ.of (by kernel_rfl)
theorem f168_0 : Fld Tryz.prog 168 0 0 := Fld.of (by kernel_rfl)
theorem ty171 : Ty Tryz.prog 171 true 1 := Ty.of Tryz.underlying171 rfl (by kernel_rfl)
theorem z171 : TyZ Tryz.prog 171 (.agg #[.pointer none]) := TyZ.of (by kernel_rfl)
theorem f171_0 : Fld Tryz.prog 171 0 0 := Fld.of (by kernel_rfl)
theorem ty178 : Ty Tryz.prog 178 false 1 := Ty.of Tryz.underlying178 rfl (by kernel_rfl)
theorem ty179 : Ty Tryz.prog 179 false 1 := Ty.of Tryz.underlying179 rfl (by kernel_rfl)
theorem ty180 : Ty Tryz.prog 180 true 0 := Ty.of Tryz.underlying180 rfl (by kernel_rfl)
theorem z180 : TyZ Tryz.prog 180 (.agg #[]) := TyZ.of (by kernel_rfl)
theorem ty186 : Ty Tryz.prog 186 false 1 := Ty.of Tryz.underlying186 rfl (by kernel_rfl)
theorem ty188 : Ty Tryz.prog 188 false 1 := Ty.of Tryz.underlying188 rfl (by kernel_rfl)
theorem ty190 : Ty Tryz.prog 190 false 1 := Ty.of Tryz.underlying190 rfl (by kernel_rfl)
theorem ty194 : Ty Tryz.prog 194 false 1 := Ty.of Tryz.underlying194 rfl (by kernel_rfl)
theorem ty211 : Ty Tryz.prog 211 false 1 := Ty.of Tryz.underlying211 rfl (by kernel_rfl)
theorem ty212 : Ty Tryz.prog 212 false 1 := Ty.of Tryz.underlying212 rfl (by kernel_rfl)
theorem ty213 : Ty Tryz.prog 213 false 1 := Ty.of Tryz.underlying213 rfl (by kernel_rfl)
theorem ty214 : Ty Tryz.prog 214 false 1 := Ty.of Tryz.underlying214 rfl (by kernel_rfl)
theorem ty223 : Ty Tryz.prog 223 false 1 := Ty.of Tryz.underlying223 rfl (by kernel_rfl)
theorem ty224 : Ty Tryz.prog 224 false 1 := Ty.of Tryz.underlying224 rfl (by kernel_rfl)
theorem ty231 : Ty Tryz.prog 231 false 1 := Ty.of Tryz.underlying231 rfl (by kernel_rfl)
theorem ty232 : Ty Tryz.prog 232 false 1 := Ty.of Tryz.underlying232 rfl (by kernel_rfl)
theorem ty243 : Ty Tryz.prog 243 false 1 := Ty.of Tryz.underlying243 rfl (by kernel_rfl)
theorem ty245 : Ty Tryz.prog 245 true 2 := Ty.of Tryz.underlying245 rfl (by kernel_rfl)
theorem z245 : TyZ Tryz.prog 245 (.agg #[.pointer none, .slice none 0 0]) := TyZ.of (by kernel_rfl)
theorem f245_0 : Fld Tryz.prog 245 0 0 := Fld.of (by kernel_rfl)
theorem f245_1 : Fld Tryz.prog 245 1 1 := Fld.of (by kernel_rfl)
theorem ty263 : Ty Tryz.prog 263 false 1 := Ty.of Tryz.underlying263 rfl (by kernel_rfl)
theorem ty268 : Ty Tryz.prog 268 true 24 := Ty.of Tryz.underlying268 rfl (by kernel_rfl)
theorem z268 : TyZ Tryz.prog 268 (.agg #[.int .u8 0, .int .u8 0, .int .u8 0, .int .u8 0, .int .u8 0, .int .u8 0, .int .u8 0, .int .u8 0, .int .u8 0, .int .u8 0, .int .u8 0, .int .u8 0, .int .u8 0, .int .u8 0, .int .u8 0, .int .u8 0, .int .u8 0, .int .u8 0, .int .u8 0, .int .u8 0, .int .u8 0, .int .u8 0, .int .u8 0, .int .u8 0]) := TyZ.of (by kernel_rfl)
theorem ty276 : Ty Tryz.prog 276 true 1 := Ty.of Tryz.underlying276 rfl (by kernel_rfl)
theorem z276 : TyZ Tryz.prog 276 (.agg #[.slice none 0 0]) := TyZ.of (by kernel_rfl)
theorem f276_0 : Fld Tryz.prog 276 0 0 := Fld.of (by kernel_rfl)
theorem ty286 : Ty Tryz.prog 286 true 0 := Ty.of Tryz.underlying286 rfl (by kernel_rfl)
theorem ty293 : Ty Tryz.prog 293 false 1 := Ty.of Tryz.underlying293 rfl (by kernel_rfl)
theorem ty298 : Ty Tryz.prog 298 true 20 := Ty.of Tryz.underlying298 rfl (by kernel_rfl)
theorem z298 : TyZ Tryz.prog 298 (.agg #[.int .u8 0, .int .u8 0, .int .u8 0, .int .u8 0, .int .u8 0, .int .u8 0, .int .u8 0, .int .u8 0, .int .u8 0, .int .u8 0, .int .u8 0, .int .u8 0, .int .u8 0, .int .u8 0, .int .u8 0, .int .u8 0, .int .u8 0, .int .u8 0, .int .u8 0, .int .u8 0]) := TyZ.of (by kernel_rfl)
theorem ty302 : Ty Tryz.prog 302 false 1 := Ty.of Tryz.underlying302 rfl (by kernel_rfl)
theorem ty306 : Ty Tryz.prog 306 true 20 := Ty.of Tryz.underlying306 rfl (by kernel_rfl)
theorem ty307 : Ty Tryz.prog 307 true 65 := Ty.of Tryz.underlying307 rfl (by kernel_rfl)
theorem ty309 : Ty Tryz.prog 309 true 256 := Ty.of Tryz.underlying309 rfl (by kernel_rfl)
theorem ty311 : Ty Tryz.prog 311 true 2 := Ty.of Tryz.underlying311 rfl (by kernel_rfl)
theorem z311 : TyZ Tryz.prog 311 (.agg #[.int .u8 0, .int .u8 0]) := TyZ.of (by kernel_rfl)
theorem f311_0 : Fld Tryz.prog 311 0 0 := Fld.of (by kernel_rfl)
theorem f311_1 : Fld Tryz.prog 311 1 1 := Fld.of (by kernel_rfl)
theorem ty312 : Ty Tryz.prog 312 true 32 := Ty.of Tryz.underlying312 rfl (by kernel_rfl)
theorem ty313 : Ty Tryz.prog 313 true 8 := Ty.of Tryz.underlying313 rfl (by kernel_rfl)
theorem z313 : TyZ Tryz.prog 313 (.agg #[.int .u8 0, .int .u8 0, .int .u8 0, .int .u8 0, .int .u8 0, .int .u8 0, .int .u8 0, .int .u8 0]) := TyZ.of (by kernel_rfl)
theorem ty320 : Ty Tryz.prog 320 true 32 := Ty.of Tryz.underlying320 rfl (by kernel_rfl)
theorem z320 : TyZ Tryz.prog 320 (.agg #[.int .u8 0, .int .u8 0, .int .u8 0, .int .u8 0, .int .u8 0, .int .u8 0, .int .u8 0, .int .u8 0, .int .u8 0, .int .u8 0, .int .u8 0, .int .u8 0, .int .u8 0, .int .u8 0, .int .u8 0, .int .u8 0, .int .u8 0, .int .u8 0, .int .u8 0, .int .u8 0, .int .u8 0, .int .u8 0, .int .u8 0, .int .u8 0, .int .u8 0, .int .u8 0, .int .u8 0, .int .u8 0, .int .u8 0, .int .u8 0, .int .u8 0, .int .u8 0]) := TyZ.of (by kernel_rfl)
theorem ty326 : Ty Tryz.prog 326 false 1 := Ty.of Tryz.underlying326 rfl (by kernel_rfl)
theorem ty327 : Ty Tryz.prog 327 true 800 := Ty.of Tryz.underlying327 rfl (by kernel_rfl)
theorem ty329 : Ty Tryz.prog 329 true 804 := Ty.of Tryz.underlying329 rfl (by kernel_rfl)
theorem f329_0 : Fld Tryz.prog 329 0 0 := Fld.of (by kernel_rfl)
theorem f329_1 : Fld Tryz.prog 329 1 800 := Fld.of (by kernel_rfl)
theorem f329_2 : Fld Tryz.prog 329 2 801 := Fld.of (by kernel_rfl)
theorem f329_3 : Fld Tryz.prog 329 3 802 := Fld.of (by kernel_rfl)
theorem f329_4 : Fld Tryz.prog 329 4 803 := Fld.of (by kernel_rfl)
theorem ty331 : Ty Tryz.prog 331 false 1 := Ty.of Tryz.underlying331 rfl (by kernel_rfl)
theorem ty338 : Ty Tryz.prog 338 true 3 := Ty.of Tryz.underlying338 rfl (by kernel_rfl)
theorem z338 : TyZ Tryz.prog 338 (.agg #[.int .u64 0, .int .u64 0, .int .i64 0]) := TyZ.of (by kernel_rfl)
theorem f338_0 : Fld Tryz.prog 338 0 0 := Fld.of (by kernel_rfl)
theorem f338_1 : Fld Tryz.prog 338 1 1 := Fld.of (by kernel_rfl)
theorem f338_2 : Fld Tryz.prog 338 2 2 := Fld.of (by kernel_rfl)
theorem ty340 : Ty Tryz.prog 340 false 1 := Ty.of Tryz.underlying340 rfl (by kernel_rfl)
theorem ty341 : Ty Tryz.prog 341 false 1 := Ty.of Tryz.underlying341 rfl (by kernel_rfl)
theorem ty348 : Ty Tryz.prog 348 true 64 := Ty.of Tryz.underlying348 rfl (by kernel_rfl)
theorem ty350 : Ty Tryz.prog 350 true 2 := Ty.of Tryz.underlying350 rfl (by kernel_rfl)
theorem f350_0 : Fld Tryz.prog 350 0 0 := Fld.of (by kernel_rfl)
theorem f350_1 : Fld Tryz.prog 350 1 1 := Fld.of (by kernel_rfl)
theorem ty351 : Ty Tryz.prog 351 true 1392 := Ty.of Tryz.underlying351 rfl (by kernel_rfl)
theorem ty356 : Ty Tryz.prog 356 true 2 := Ty.of Tryz.underlying356 rfl (by kernel_rfl)
theorem f356_0 : Fld Tryz.prog 356 0 0 := Fld.of (by kernel_rfl)
theorem f356_1 : Fld Tryz.prog 356 1 1 := Fld.of (by kernel_rfl)
theorem ty357 : Ty Tryz.prog 357 false 1 := Ty.of Tryz.underlying357 rfl (by kernel_rfl)
theorem ty360 : Ty Tryz.prog 360 true 4 := Ty.of Tryz.underlying360 rfl (by kernel_rfl)
theorem f360_0 : Fld Tryz.prog 360 0 0 := Fld.of (by kernel_rfl)
theorem f360_1 : Fld Tryz.prog 360 1 1 := Fld.of (by kernel_rfl)
theorem f360_2 : Fld Tryz.prog 360 2 2 := Fld.of (by kernel_rfl)
theorem f360_3 : Fld Tryz.prog 360 3 3 := Fld.of (by kernel_rfl)
theorem ty363 : Ty Tryz.prog 363 true 0 := Ty.of Tryz.underlying363 rfl (by kernel_rfl)
theorem ty365 : Ty Tryz.prog 365 false 1 := Ty.of Tryz.underlying365 rfl (by kernel_rfl)
theorem ty370 : Ty Tryz.prog 370 true 11 := Ty.of Tryz.underlying370 rfl (by kernel_rfl)
theorem f370_0 : Fld Tryz.prog 370 0 0 := Fld.of (by kernel_rfl)
theorem f370_1 : Fld Tryz.prog 370 1 1 := Fld.of (by kernel_rfl)
theorem f370_2 : Fld Tryz.prog 370 2 2 := Fld.of (by kernel_rfl)
theorem f370_3 : Fld Tryz.prog 370 3 3 := Fld.of (by kernel_rfl)
theorem f370_4 : Fld Tryz.prog 370 4 4 := Fld.of (by kernel_rfl)
theorem f370_5 : Fld Tryz.prog 370 5 5 := Fld.of (by kernel_rfl)
theorem f370_6 : Fld Tryz.prog 370 6 6 := Fld.of (by kernel_rfl)
theorem f370_7 : Fld Tryz.prog 370 7 7 := Fld.of (by kernel_rfl)
theorem f370_8 : Fld Tryz.prog 370 8 8 := Fld.of (by kernel_rfl)
theorem f370_9 : Fld Tryz.prog 370 9 9 := Fld.of (by kernel_rfl)
theorem f370_10 : Fld Tryz.prog 370 10 10 := Fld.of (by kernel_rfl)
theorem ty373 : Ty Tryz.prog 373 false 1 := Ty.of Tryz.underlying373 rfl (by kernel_rfl)
theorem ty375 : Ty Tryz.prog 375 false 1 := Ty.of Tryz.underlying375 rfl (by kernel_rfl)
theorem ty377 : Ty Tryz.prog 377 true 3 := Ty.of Tryz.underlying377 rfl (by kernel_rfl)
theorem z377 : TyZ Tryz.prog 377 (.agg #[.slice none 0 0, .int .i64 0, .int .i8 0]) := TyZ.of (by kernel_rfl)
theorem f377_0 : Fld Tryz.prog 377 0 0 := Fld.of (by kernel_rfl)
theorem f377_1 : Fld Tryz.prog 377 1 1 := Fld.of (by kernel_rfl)
theorem f377_2 : Fld Tryz.prog 377 2 2 := Fld.of (by kernel_rfl)
theorem ty386 : Ty Tryz.prog 386 false 1 := Ty.of Tryz.underlying386 rfl (by kernel_rfl)
theorem ty388 : Ty Tryz.prog 388 true 1 := Ty.of Tryz.underlying388 rfl (by kernel_rfl)
theorem f388_0 : Fld Tryz.prog 388 0 0 := Fld.of (by kernel_rfl)
theorem ty390 : Ty Tryz.prog 390 true 1 := Ty.of Tryz.underlying390 rfl (by kernel_rfl)
theorem f390_0 : Fld Tryz.prog 390 0 0 := Fld.of (by kernel_rfl)
/-- Steps that are found by the shape of the operation. -/
theorem rf {α : Sort _} {a b : α} (h : a = b := by rfl) : a = b := h
theorem rdd {As : List Ent} {R : Frag} {b off n : Nat} {vs : List Value} (h : Rd As R b off n vs := by first | exact Rd.own (by repeat (first | exact Mem.here | apply Mem.there)) (by rfl) | exact RdR.rd (by assumption)) : Rd As R b off n vs := h
theorem mmm {l : List Ent} {e : Ent} (h : Mem l e := by repeat (first | exact Mem.here | apply Mem.there)) : Mem l e := h
theorem sss {l l' : List Ent} {e e' : Ent} (h : Sel l e e' l' := by repeat (first | exact Sel.here | apply Sel.there)) : Sel l e e' l' := h
theorem ttt {l l' : List Ent} (h : Tail l l' := by repeat (first | exact Tail.refl | apply Tail.cons)) : Tail l l' := h
theorem ooo {l l' : List Ent} {e : Ent} (h : Out l e l' := by repeat (first | exact Out.here | apply Out.there)) : Out l e l' := h
theorem dq0 {N : Nat} {E : Env} {R : Frag} {As : List Ent} {d : Nat} {V : Frag → Value → Prop} {G : List (Nat × Value)} {v : Value} (hv : V R v) : HQ (DQ N E R As d V G) N ((d, v) :: G) E R As .normal := HQ_dq1 (Frag.le_refl _) hv .refl
theorem hqr {P : Program} {N : Nat} {F : List (Nat × Value)} {E : Env} {R : Frag} {As : List Ent} {fn : Func} {Rp : Ending → World → Prop} {t : Nat} {v : Value} (hres : fn.results = #[.tmp t]) (ht : lk F t = some v) (h : ∀ w, St E w R As → Rp (.returned v) w) : HQ (bodyPost P fn Rp) N F E R As .ret := HQ_ret (.inl rfl) v (fun a w ha _ => run_results_tmp hres ht a w ha) h
theorem sqm {p q : Prop} (k : q) (h : q → p := by (intro k; (first | (refine HL_guard_no (by rfl) (by rfl) (by rfl) (by rfl) ?_) | (refine HL_guard_yes (by rfl) (by rfl) ?_; refine HL_move (by rfl) (by rfl) ?_)); exact k)) : p := h k

theorem sq1 {p q : Prop} (k : q) (h : q → p := by (intro k; (first | with_reducible refine HL_nil ?_ | with_reducible refine HL_move (by with_unfolding_all rfl) (by with_unfolding_all rfl) ?_ | with_reducible refine HQ_then ?_ | with_reducible refine HC_region ?_ | with_reducible refine HC_seq ?_ | with_reducible refine HL_assign (by with_unfolding_all rfl) (by with_unfolding_all rfl) ?_ | with_reducible refine HL_guard_no (by with_unfolding_all rfl) (by with_unfolding_all rfl) (by with_unfolding_all rfl) (by with_unfolding_all rfl) ?_ | with_reducible refine HL_guard_yes (by with_unfolding_all rfl) (by with_unfolding_all rfl) ?_ | with_reducible refine HL_extract (by with_unfolding_all rfl) (by with_unfolding_all rfl) (by with_unfolding_all rfl) ?_ | with_reducible refine HL_pick (by with_unfolding_all rfl) (by with_unfolding_all rfl) (by with_unfolding_all rfl) ?_ | with_reducible refine HC_skip ?_ | with_reducible refine HC_block ?_ | with_reducible refine HC_ret ?_ | with_reducible refine HQ_then_exit ?_ | with_reducible refine HL_nilCheck (by with_unfolding_all rfl) (by with_unfolding_all rfl) ?_ | with_reducible refine HL_not (by with_unfolding_all rfl) (by with_unfolding_all rfl) ?_ | with_reducible refine HL_lss (by with_unfolding_all rfl) (by with_unfolding_all rfl) (by with_unfolding_all rfl) ?_ | with_reducible refine HL_gtr (by with_unfolding_all rfl) (by with_unfolding_all rfl) (by with_unfolding_all rfl) ?_ | with_reducible refine HL_leq (by with_unfolding_all rfl) (by with_unfolding_all rfl) (by with_unfolding_all rfl) ?_ | with_reducible refine HL_geq (by with_unfolding_all rfl) (by with_unfolding_all rfl) (by with_unfolding_all rfl) ?_ | with_reducible refine HL_eql_int (by with_unfolding_all rfl) (by with_unfolding_all rfl) (by with_unfolding_all rfl) ?_ | with_reducible refine HL_fieldAddr (by with_unfolding_all rfl) (by first | exact f8_0 | exact f8_1 | exact f8_2 | exact f8_3 | exact f14_0 | exact f14_1 | exact f19_0 | exact f52_0 | exact f52_1 | exact f52_2 | exact f52_3 | exact f52_4 | exact f52_5 | exact f52_6 | exact f54_0 | exact f54_1 | exact f65_0 | exact f65_1 | exact f65_2 | exact f65_3 | exact f65_4 | exact f65_5 | exact f65_6 | exact f67_0 | exact f67_1 | exact f86_0 | exact f86_1 | exact f91_0 | exact f91_1 | exact f95_0 | exact f95_1 | exact f95_2 | exact f95_3 | exact f97_0 | exact f97_1 | exact f99_0 | exact f99_1 | exact f99_2 | exact f101_0 | exact f101_1 | exact f101_2 | exact f123_0 | exact f168_0 | exact f171_0 | exact f245_0 | exact f245_1 | exact f276_0 | exact f311_0 | exact f311_1 | exact f329_0 | exact f329_1 | exact f329_2 | exact f329_3 | exact f329_4 | exact f338_0 | exact f338_1 | exact f338_2 | exact f350_0 | exact f350_1 | exact f356_0 | exact f356_1 | exact f360_0 | exact f360_1 | exact f360_2 | exact f360_3 | exact f370_0 | exact f370_1 | exact f370_2 | exact f370_3 | exact f370_4 | exact f370_5 | exact f370_6 | exact f370_7 | exact f370_8 | exact f370_9 | exact f370_10 | exact f377_0 | exact f377_1 | exact f377_2 | exact f388_0 | exact f390_0) (by with_unfolding_all rfl) ?_ | with_reducible refine HL_len_slice (by with_unfolding_all rfl) (by first | exact Tryz.underlying9 | exact Tryz.underlying22 | exact Tryz.underlying27 | exact Tryz.underlying31 | exact Tryz.underlying49 | exact Tryz.underlying50 | exact Tryz.underlying55 | exact Tryz.underlying63 | exact Tryz.underlying84 | exact Tryz.underlying92 | exact Tryz.underlying111 | exact Tryz.underlying186 | exact Tryz.underlying188 | exact Tryz.underlying190 | exact Tryz.underlying194) (by with_unfolding_all rfl) ?_ | with_reducible refine HL_len_string (by with_unfolding_all rfl) (by first | exact Tryz.underlying9 | exact Tryz.underlying22 | exact Tryz.underlying27 | exact Tryz.underlying31 | exact Tryz.underlying49 | exact Tryz.underlying50 | exact Tryz.underlying55 | exact Tryz.underlying63 | exact Tryz.underlying84 | exact Tryz.underlying92 | exact Tryz.underlying111 | exact Tryz.underlying186 | exact Tryz.underlying188 | exact Tryz.underlying190 | exact Tryz.underlying194) (by with_unfolding_all rfl) ?_ | ((with_reducible refine HL_load_one (v := ?_) (by with_unfolding_all rfl) (by first | exact ty2 | exact ty3 | exact ty4 | exact ty5 | exact ty8 | exact ty9 | exact ty10 | exact ty11 | exact ty12 | exact ty14 | exact ty15 | exact ty16 | exact ty17 | exact ty19 | exact ty20 | exact ty21 | exact ty22 | exact ty27 | exact ty31 | exact ty48 | exact ty49 | exact ty50 | exact ty52 | exact ty54 | exact ty55 | exact ty63 | exact ty65 | exact ty67 | exact ty73 | exact ty81 | exact ty83 | exact ty84 | exact ty86 | exact ty89 | exact ty91 | exact ty92 | exact ty93 | exact ty95 | exact ty97 | exact ty99 | exact ty101 | exact ty111 | exact ty112 | exact ty113 | exact ty118 | exact ty123 | exact ty128 | exact ty131 | exact ty139 | exact ty140 | exact ty141 | exact ty142 | exact ty143 | exact ty155 | exact ty156 | exact ty157 | exact ty158 | exact ty163 | exact ty166 | exact ty168 | exact ty171 | exact ty178 | exact ty179 | exact ty180 | exact ty186 | exact ty188 | exact ty190 | exact ty194 | exact ty211 | exact ty212 | exact ty213 | exact ty214 | exact ty223 | exact ty224 | exact ty231 | exact ty232 | exact ty243 | exact ty245 | exact ty263 | exact ty268 | exact ty276 | exact ty286 | exact ty293 | exact ty298 | exact ty302 | exact ty306 | exact ty307 | exact ty309 | exact ty311 | exact ty312 | exact ty313 | exact ty320 | exact ty326 | exact ty327 | exact ty329 | exact ty331 | exact ty338 | exact ty340 | exact ty341 | exact ty348 | exact ty350 | exact ty351 | exact ty356 | exact ty357 | exact ty360 | exact ty363 | exact ty365 | exact ty370 | exact ty373 | exact ty375 | exact ty377 | exact ty386 | exact ty388 | exact ty390) (by with_unfolding_all rfl) ?_ ?_); rotate_left; (first | exact Rd.own (by repeat (first | exact Mem.here | apply Mem.there)) (by rfl) | exact RdR.rd (by assumption))) | with_reducible refine HQ_block ?_ | with_reducible refine HQ_block_same ?_ | with_reducible refine HQ_then_ret ?_ | with_reducible refine HQ_block_ret ?_ | with_reducible refine HC_exit ?_ | with_reducible refine HC_cond_t (by with_unfolding_all rfl) ?_ | with_reducible refine HC_cond_f (by with_unfolding_all rfl) ?_ | with_reducible refine HQ_ret (.inl (by with_unfolding_all rfl)) _ (fun a w ha hs => run_results_tmp (by with_unfolding_all rfl) (by with_unfolding_all rfl) a w ha) ?_ | with_reducible refine HQ_ret (.inr (by with_unfolding_all rfl)) (.tuple #[]) (fun a w ha hs => run_results_none (by with_unfolding_all rfl) a w) ?_ | with_reducible refine HQ_ret (.inl (by with_unfolding_all rfl)) (.tuple #[]) (fun a w ha hs => run_results_none (by with_unfolding_all rfl) a w) ?_ | with_reducible refine HQ_ret (.inl (by with_unfolding_all rfl)) _ (fun a w ha hs => run_results_list (by with_unfolding_all rfl) (.tmp (by with_unfolding_all rfl) (.tmp (by with_unfolding_all rfl) .nil)) (by with_unfolding_all simp) ha hs) ?_ | with_reducible refine HL_guard_un (by with_unfolding_all rfl) (by with_unfolding_all rfl) (by with_unfolding_all rfl) ?_ | ((with_reducible show HL _ _ _ _ _ _ _ _ _); first | refine HL_nil ?_ | refine HL_move (by rfl) (by rfl) ?_ | refine HL_assign (by rfl) (by rfl) ?_ | refine HL_guard_no (by rfl) (by rfl) (by rfl) (by rfl) ?_ | refine HL_guard_yes (by rfl) (by rfl) ?_ | refine HL_extract (by rfl) (by rfl) (by rfl) ?_ | refine HL_pick (by rfl) (by rfl) (by rfl) ?_ | refine HL_nilCheck (by rfl) (by rfl) ?_ | refine HL_not (by rfl) (by rfl) ?_ | refine HL_lss (by rfl) (by rfl) (by rfl) ?_ | refine HL_gtr (by rfl) (by rfl) (by rfl) ?_ | refine HL_leq (by rfl) (by rfl) (by rfl) ?_ | refine HL_geq (by rfl) (by rfl) (by rfl) ?_ | refine HL_eql_int (by rfl) (by rfl) (by rfl) ?_ | refine HL_fieldAddr (by rfl) (by first | exact f8_0 | exact f8_1 | exact f8_2 | exact f8_3 | exact f14_0 | exact f14_1 | exact f19_0 | exact f52_0 | exact f52_1 | exact f52_2 | exact f52_3 | exact f52_4 | exact f52_5 | exact f52_6 | exact f54_0 | exact f54_1 | exact f65_0 | exact f65_1 | exact f65_2 | exact f65_3 | exact f65_4 | exact f65_5 | exact f65_6 | exact f67_0 | exact f67_1 | exact f86_0 | exact f86_1 | exact f91_0 | exact f91_1 | exact f95_0 | exact f95_1 | exact f95_2 | exact f95_3 | exact f97_0 | exact f97_1 | exact f99_0 | exact f99_1 | exact f99_2 | exact f101_0 | exact f101_1 | exact f101_2 | exact f123_0 | exact f168_0 | exact f171_0 | exact f245_0 | exact f245_1 | exact f276_0 | exact f311_0 | exact f311_1 | exact f329_0 | exact f329_1 | exact f329_2 | exact f329_3 | exact f329_4 | exact f338_0 | exact f338_1 | exact f338_2 | exact f350_0 | exact f350_1 | exact f356_0 | exact f356_1 | exact f360_0 | exact f360_1 | exact f360_2 | exact f360_3 | exact f370_0 | exact f370_1 | exact f370_2 | exact f370_3 | exact f370_4 | exact f370_5 | exact f370_6 | exact f370_7 | exact f370_8 | exact f370_9 | exact f370_10 | exact f377_0 | exact f377_1 | exact f377_2 | exact f388_0 | exact f390_0) (by rfl) ?_ | refine HL_len_slice (by rfl) (by first | exact Tryz.underlying9 | exact Tryz.underlying22 | exact Tryz.underlying27 | exact Tryz.underlying31 | exact Tryz.underlying49 | exact Tryz.underlying50 | exact Tryz.underlying55 | exact Tryz.underlying63 | exact Tryz.underlying84 | exact Tryz.underlying92 | exact Tryz.underlying111 | exact Tryz.underlying186 | exact Tryz.underlying188 | exact Tryz.underlying190 | exact Tryz.underlying194) (by rfl) ?_ | refine HL_len_string (by rfl) (by first | exact Tryz.underlying9 | exact Tryz.underlying22 | exact Tryz.underlying27 | exact Tryz.underlying31 | exact Tryz.underlying49 | exact Tryz.underlying50 | exact Tryz.underlying55 | exact Tryz.underlying63 | exact Tryz.underlying84 | exact Tryz.underlying92 | exact Tryz.underlying111 | exact Tryz.underlying186 | exact Tryz.underlying188 | exact Tryz.underlying190 | exact Tryz.underlying194) (by rfl) ?_ | ((refine HL_load_one (v := ?_) (by rfl) (by first | exact ty2 | exact ty3 | exact ty4 | exact ty5 | exact ty8 | exact ty9 | exact ty10 | exact ty11 | exact ty12 | exact ty14 | exact ty15 | exact ty16 | exact ty17 | exact ty19 | exact ty20 | exact ty21 | exact ty22 | exact ty27 | exact ty31 | exact ty48 | exact ty49 | exact ty50 | exact ty52 | exact ty54 | exact ty55 | exact ty63 | exact ty65 | exact ty67 | exact ty73 | exact ty81 | exact ty83 | exact ty84 | exact ty86 | exact ty89 | exact ty91 | exact ty92 | exact ty93 | exact ty95 | exact ty97 | exact ty99 | exact ty101 | exact ty111 | exact ty112 | exact ty113 | exact ty118 | exact ty123 | exact ty128 | exact ty131 | exact ty139 | exact ty140 | exact ty141 | exact ty142 | exact ty143 | exact ty155 | exact ty156 | exact ty157 | exact ty158 | exact ty163 | exact ty166 | exact ty168 | exact ty171 | exact ty178 | exact ty179 | exact ty180 | exact ty186 | exact ty188 | exact ty190 | exact ty194 | exact ty211 | exact ty212 | exact ty213 | exact ty214 | exact ty223 | exact ty224 | exact ty231 | exact ty232 | exact ty243 | exact ty245 | exact ty263 | exact ty268 | exact ty276 | exact ty286 | exact ty293 | exact ty298 | exact ty302 | exact ty306 | exact ty307 | exact ty309 | exact ty311 | exact ty312 | exact ty313 | exact ty320 | exact ty326 | exact ty327 | exact ty329 | exact ty331 | exact ty338 | exact ty340 | exact ty341 | exact ty348 | exact ty350 | exact ty351 | exact ty356 | exact ty357 | exact ty360 | exact ty363 | exact ty365 | exact ty370 | exact ty373 | exact ty375 | exact ty377 | exact ty386 | exact ty388 | exact ty390) (by rfl) ?_ ?_); rotate_left; (first | exact Rd.own (by repeat (first | exact Mem.here | apply Mem.there)) (by rfl) | exact RdR.rd (by assumption))) | refine HL_guard_un (by rfl) (by rfl) (by rfl) ?_)); exact k)) : p := h k
theorem sq2 {p q : Prop} (k : q) (h : q → p := by (intro k; (iterate 2 (refine sq1 ?_)); exact k)) : p := h k
theorem sq3 {p q : Prop} (k : q) (h : q → p := by (intro k; (iterate 3 (refine sq1 ?_)); exact k)) : p := h k
theorem sq4 {p q : Prop} (k : q) (h : q → p := by (intro k; (iterate 4 (refine sq1 ?_)); exact k)) : p := h k
theorem sq5 {p q : Prop} (k : q) (h : q → p := by (intro k; (iterate 5 (refine sq1 ?_)); exact k)) : p := h k
theorem sq6 {p q : Prop} (k : q) (h : q → p := by (intro k; (iterate 6 (refine sq1 ?_)); exact k)) : p := h k
theorem sq7 {p q : Prop} (k : q) (h : q → p := by (intro k; (iterate 7 (refine sq1 ?_)); exact k)) : p := h k
theorem sq8 {p q : Prop} (k : q) (h : q → p := by (intro k; (iterate 8 (refine sq1 ?_)); exact k)) : p := h k
theorem sq9 {p q : Prop} (k : q) (h : q → p := by (intro k; (iterate 9 (refine sq1 ?_)); exact k)) : p := h k
theorem sq10 {p q : Prop} (k : q) (h : q → p := by (intro k; (iterate 10 (refine sq1 ?_)); exact k)) : p := h k
theorem sq11 {p q : Prop} (k : q) (h : q → p := by (intro k; (iterate 11 (refine sq1 ?_)); exact k)) : p := h k
theorem sq12 {p q : Prop} (k : q) (h : q → p := by (intro k; (iterate 12 (refine sq1 ?_)); exact k)) : p := h k
theorem sq13 {p q : Prop} (k : q) (h : q → p := by (intro k; (iterate 13 (refine sq1 ?_)); exact k)) : p := h k
theorem sq14 {p q : Prop} (k : q) (h : q → p := by (intro k; (iterate 14 (refine sq1 ?_)); exact k)) : p := h k
theorem sq15 {p q : Prop} (k : q) (h : q → p := by (intro k; (iterate 15 (refine sq1 ?_)); exact k)) : p := h k
theorem sq16 {p q : Prop} (k : q) (h : q → p := by (intro k; (iterate 16 (refine sq1 ?_)); exact k)) : p := h k
theorem zlt {a b c : Frag} (h1 : Frag.le a b) (h2 : Frag.le b c) : Frag.le a c := Frag.le_trans h1 h2
theorem zlr {a : Frag} : Frag.le a a := Frag.le_refl a
theorem zrp {E : Env} {R₀ R : Frag} {L As : List Ent} {v : Value} {Res : Frag → Value → Prop} (hle : Frag.le R₀ R) (hr : Res R v) (ht : Tail L As := by repeat (first | exact Tail.refl | apply Tail.cons)) : ∀ w, St E w R L → ∃ v' R' As', Ending.returned v = Ending.returned v' ∧ St E w R' As' ∧ As' = As ∧ Frag.le R₀ R' ∧ Res R' v' := fun _ hs => ret_pure hs ht hle hr
def isFnB (P : Program) (f : FuncId) : Bool := match P.funcs[f]? with | some fn => (fn.name == "runtime.NumGoroutine") == false && fn.body.isSome | none => false
theorem isf {P : Program} {f : FuncId} (h : isFnB P f = true := by kernel_rfl) : IsFn P f := by
 unfold isFnB at h
 split at h
 · rename_i fn hf
   simp at h
   exact ⟨fn, hf, by simpa using h.1, by cases hb : fn.body <;> simp_all⟩
 · cases h
theorem zlc {P : Program} {ops : Array Oper} {Q : Exit → Act → World → Prop} {N : Nat} {F : List (Nat × Value)} {E : Env} {R : Frag} {As : List Ent} {d : Nat} {ty : TypeId} {pos : String} {af : Array Edge} {l : List Oper} {f : FuncId} {xs : List Operand} {ats : Array TypeId} {vs : List Value} {Post : Value → Frag → List Ent → Prop} (hx : evs F xs = some vs) (hc : Tri P f vs E R As Post) (k : ∀ v R' As', Post v R' As' → HL P ops Q N ((d, v) :: F) E R' As' l) (hd : Nat.blt d N = true := by rfl) (hf : IsFn P f := by exact isf) : HL P ops Q N F E R As (⟨some d, .call ⟨.value (.func f), xs.toArray, ats⟩, ty, pos, af, none⟩ :: l) := HL_call hd hf hx hc k
theorem hqr1 {Q : Exit → Act → World → Prop} {N : Nat} {F : List (Nat × Value)} {E : Env} {R : Frag} {As : List Ent} {Inv : List (Nat × Value) → Frag → List Ent → Nat → Prop} {m : Nat} {F₀ : List (Nat × Value)} (m₀ : Nat) (h₀ : Inv F₀ R As m₀) (hsub : Sub F F₀ := by (repeat (first | exact trivial | refine ⟨rfl, ?_⟩))) (hlt : m₀ < m := by omega) : HQ (Exit.then (LI Inv N E m) Q) N F E R As .normal := HQ_loop F₀ As m₀ hlt hsub (.refl _) h₀
theorem hqc1 {Q : Exit → Act → World → Prop} {N : Nat} {F : List (Nat × Value)} {E : Env} {R : Frag} {As : List Ent} {Mid : List (Nat × Value) → Frag → List Ent → Prop} {F₀ : List (Nat × Value)} (h₀ : Mid F₀ R As) (hsub : Sub F F₀ := by (repeat (first | exact trivial | refine ⟨rfl, ?_⟩))) : HQ (Exit.then (MidK Mid N E) Q) N F E R As .normal := HQ_cut F₀ As hsub (.refl _) h₀
theorem hql {Q : Exit → Act → World → Prop} {N : Nat} {F : List (Nat × Value)} {E : Env} {R : Frag} {As : List Ent} {Inv : List (Nat × Value) → Frag → List Ent → Nat → Prop} {m : Nat} {F₀ : List (Nat × Value)} (As₀ : List Ent) (m₀ : Nat) (h₀ : Inv F₀ R As₀ m₀) (hsub : Sub F F₀ := by (repeat (first | exact trivial | refine ⟨rfl, ?_⟩))) (hlt : m₀ < m := by omega) (hperm : As.Perm As₀ := by exact .refl _) : HQ (Exit.then (LI Inv N E m) Q) N F E R As .normal := HQ_loop F₀ As₀ m₀ hlt hsub hperm h₀
theorem hqc {Q : Exit → Act → World → Prop} {N : Nat} {F : List (Nat × Value)} {E : Env} {R : Frag} {As : List Ent} {Mid : List (Nat × Value) → Frag → List Ent → Prop} {F₀ : List (Nat × Value)} (As₀ : List Ent) (h₀ : Mid F₀ R As₀) (hsub : Sub F F₀ := by (repeat (first | exact trivial | refine ⟨rfl, ?_⟩))) (hperm : As.Perm As₀ := by exact .refl _) : HQ (Exit.then (MidK Mid N E) Q) N F E R As .normal := HQ_cut F₀ As₀ hsub hperm h₀
theorem hcl {P : Program} {Q : Exit → Act → World → Prop} {N : Nat} {F : List (Nat × Value)} {E : Env} {R : Frag} {As : List Ent} {body : Code} (Inv : List (Nat × Value) → Frag → List Ent → Nat → Prop) {F₀ : List (Nat × Value)} (As₀ : List Ent) (m₀ : Nat) (h₀ : Inv F₀ R As₀ m₀) (round : ∀ F R As m, Inv F R As m → HC P (Exit.then (LI Inv N E m) Q) N F E R As body) (hsub : Sub F F₀ := by (repeat (first | exact trivial | refine ⟨rfl, ?_⟩))) (hperm : As.Perm As₀ := by exact .refl _) : HC P Q N F E R As (.loop body) := HC_loop Inv F₀ As₀ m₀ hsub hperm h₀ round
theorem dqn {P : Program} {ops : Array Oper} {N : Nat} {E : Env} {R : Frag} {As : List Ent} {d : Nat} {V : Frag → Value → Prop} {G : List (Nat × Value)} {v : Value} (hv : V R v := by exact rfl) : HL P ops (DQ N E R As d V G) N ((d, v) :: G) E R As [] := HL_nil (dq0 hv)
theorem dm {p : Prop} (h : p := by (intro R1 G hle; (repeat (rintro _ rfl)); (show HL _ _ _ _ _ _ _ _ _); (first | with_reducible refine HL_move (by with_unfolding_all rfl) (by with_unfolding_all rfl) ?_ | with_reducible refine HL_nilCheck (by with_unfolding_all rfl) (by with_unfolding_all rfl) ?_ | with_reducible refine HL_fieldAddr (by with_unfolding_all rfl) (by first | exact f8_0 | exact f8_1 | exact f8_2 | exact f8_3 | exact f14_0 | exact f14_1 | exact f19_0 | exact f52_0 | exact f52_1 | exact f52_2 | exact f52_3 | exact f52_4 | exact f52_5 | exact f52_6 | exact f54_0 | exact f54_1 | exact f65_0 | exact f65_1 | exact f65_2 | exact f65_3 | exact f65_4 | exact f65_5 | exact f65_6 | exact f67_0 | exact f67_1 | exact f86_0 | exact f86_1 | exact f91_0 | exact f91_1 | exact f95_0 | exact f95_1 | exact f95_2 | exact f95_3 | exact f97_0 | exact f97_1 | exact f99_0 | exact f99_1 | exact f99_2 | exact f101_0 | exact f101_1 | exact f101_2 | exact f123_0 | exact f168_0 | exact f171_0 | exact f245_0 | exact f245_1 | exact f276_0 | exact f311_0 | exact f311_1 | exact f329_0 | exact f329_1 | exact f329_2 | exact f329_3 | exact f329_4 | exact f338_0 | exact f338_1 | exact f338_2 | exact f350_0 | exact f350_1 | exact f356_0 | exact f356_1 | exact f360_0 | exact f360_1 | exact f360_2 | exact f360_3 | exact f370_0 | exact f370_1 | exact f370_2 | exact f370_3 | exact f370_4 | exact f370_5 | exact f370_6 | exact f370_7 | exact f370_8 | exact f370_9 | exact f370_10 | exact f377_0 | exact f377_1 | exact f377_2 | exact f388_0 | exact f390_0) (by with_unfolding_all rfl) ?_ | with_reducible refine HL_len_slice (by with_unfolding_all rfl) (by first | exact Tryz.underlying9 | exact Tryz.underlying22 | exact Tryz.underlying27 | exact Tryz.underlying31 | exact Tryz.underlying49 | exact Tryz.underlying50 | exact Tryz.underlying55 | exact Tryz.underlying63 | exact Tryz.underlying84 | exact Tryz.underlying92 | exact Tryz.underlying111 | exact Tryz.underlying186 | exact Tryz.underlying188 | exact Tryz.underlying190 | exact Tryz.underlying194) (by with_unfolding_all rfl) ?_ | with_reducible refine HL_len_string (by with_unfolding_all rfl) (by first | exact Tryz.underlying9 | exact Tryz.underlying22 | exact Tryz.underlying27 | exact Tryz.underlying31 | exact Tryz.underlying49 | exact Tryz.underlying50 | exact Tryz.underlying55 | exact Tryz.underlying63 | exact Tryz.underlying84 | exact Tryz.underlying92 | exact Tryz.underlying111 | exact Tryz.underlying186 | exact Tryz.underlying188 | exact Tryz.underlying190 | exact Tryz.underlying194) (by with_unfolding_all rfl) ?_ | with_reducible refine HL_assign (by with_unfolding_all rfl) (by with_unfolding_all rfl) ?_ | ((with_reducible refine HL_load_one (v := ?_) (by with_unfolding_all rfl) (by first | exact ty2 | exact ty3 | exact ty4 | exact ty5 | exact ty8 | exact ty9 | exact ty10 | exact ty11 | exact ty12 | exact ty14 | exact ty15 | exact ty16 | exact ty17 | exact ty19 | exact ty20 | exact ty21 | exact ty22 | exact ty27 | exact ty31 | exact ty48 | exact ty49 | exact ty50 | exact ty52 | exact ty54 | exact ty55 | exact ty63 | exact ty65 | exact ty67 | exact ty73 | exact ty81 | exact ty83 | exact ty84 | exact ty86 | exact ty89 | exact ty91 | exact ty92 | exact ty93 | exact ty95 | exact ty97 | exact ty99 | exact ty101 | exact ty111 | exact ty112 | exact ty113 | exact ty118 | exact ty123 | exact ty128 | exact ty131 | exact ty139 | exact ty140 | exact ty141 | exact ty142 | exact ty143 | exact ty155 | exact ty156 | exact ty157 | exact ty158 | exact ty163 | exact ty166 | exact ty168 | exact ty171 | exact ty178 | exact ty179 | exact ty180 | exact ty186 | exact ty188 | exact ty190 | exact ty194 | exact ty211 | exact ty212 | exact ty213 | exact ty214 | exact ty223 | exact ty224 | exact ty231 | exact ty232 | exact ty243 | exact ty245 | exact ty263 | exact ty268 | exact ty276 | exact ty286 | exact ty293 | exact ty298 | exact ty302 | exact ty306 | exact ty307 | exact ty309 | exact ty311 | exact ty312 | exact ty313 | exact ty320 | exact ty326 | exact ty327 | exact ty329 | exact ty331 | exact ty338 | exact ty340 | exact ty341 | exact ty348 | exact ty350 | exact ty351 | exact ty356 | exact ty357 | exact ty360 | exact ty363 | exact ty365 | exact ty370 | exact ty373 | exact ty375 | exact ty377 | exact ty386 | exact ty388 | exact ty390) (by with_unfolding_all rfl) ?_ ?_); rotate_left; (first | exact Rd.own (by repeat (first | exact Mem.here | apply Mem.there)) (by rfl) | exact RdR.rd (by assumption))) | with_reducible refine HL_add (by with_unfolding_all rfl) (by with_unfolding_all rfl) (by with_unfolding_all rfl) (by with_unfolding_all omega) (by with_unfolding_all omega) ?_); refine HL_nil ?_; exact HQ_dq1 (Frag.le_refl _) rfl .refl)) : p := h
theorem ten {P : Program} {N : Nat} {f : FuncId} {fn : Func} {c : Code} {vs : List Value} {E : Env} {R : Frag} {As : List Ent} {Post : Value → Frag → List Ent → Prop} (hf : P.funcs[f]? = some fn) (h : HC P (bodyPost P fn fun e w' => ∃ v R' As', e = .returned v ∧ St E w' R' As' ∧ Post v R' As') N (frame0 vs) E R As c) (hb : fn.body = some c := by rfl) (hN : fn.ntmps = N := by rfl) (hlen : Nat.ble vs.length N = true := by rfl) : Tri P f vs E R As Post := Tri_enter hf hb hN hlen R As h
theorem hdh {P : Program} {Q : Exit → Act → World → Prop} {N : Nat} {F : List (Nat × Value)} {E : Env} {R : Frag} {As : List Ent} {id : Nat} {l : List Oper} (k n : Nat) (V : Nat → Frag → Value → Prop) (js : List (Nat × List (Nat × Nat))) (all : List (Nat × Nat)) {ds : List Nat} (hmono : ∀ j R R' v, Frag.le R R' → V j R v → V j R' v) (hop : Hops P l.toArray N F E R As V js (l.take k)) (htail : ∀ R1, Frag.le R R1 → DepP V R1 all fun L => HL P l.toArray Q N (L ++ F) E R1 As (l.drop k)) (hds : dsts (l.take k) = some ds := by rfl) (hm : P.follows .mixedOrders = true := by kernel_rfl) (hok : drawOk l.toArray [] k n = true := by kernel_rfl) (hk : Nat.ble k l.length = true := by kernel_rfl) (hnd : ds.Nodup := by decide) (hF : (ds.all fun d => (lk F d).isNone) = true := by rfl) (hjs : js.map (·.1) = List.range' 0 k := by kernel_rfl) (hall : all.map (·.1) = List.range k := by kernel_rfl) (halld : (all.all fun p => Nat.beq (dstOf l.toArray p.1) p.2) = true := by kernel_rfl) (hdep : (js.all fun q => q.2.all fun p => Nat.blt p.1 k && Nat.beq (dstOf l.toArray p.1) p.2 && match l[q.1]? with | some o => o.after.toList.any fun e => Region.binds .any e && Nat.beq e.on p.1 | none => false) = true := by kernel_rfl) (hQ : ∀ c d v a w, Q (.panic c) (a.put d v) w → Q (.panic c) a w := by (intro c d v a w h; cases d <;> exact h)) : HC P Q N F E R As (.region id l.toArray true) := HC_drawH k n V js all hm hok hk hds hnd hF hjs hall halld hdep hQ hmono hop htail
theorem hdp {P : Program} {Q : Exit → Act → World → Prop} {N : Nat} {F : List (Nat × Value)} {E : Env} {R : Frag} {As : List Ent} {id : Nat} {l : List Oper} (pre : List (Nat × Nat × Value)) (k n : Nat) (V : Nat → Frag → Value → Prop) (js : List (Nat × List (Nat × Nat))) (all : List (Nat × Nat)) (hpreR : PreR P l N F pre) {ds : List Nat} (hmono : ∀ j R R' v, Frag.le R R' → V j R v → V j R' v) (hop : Hops P l.toArray N F E R As V js (l.take k)) (htail : ∀ R1, Frag.le R R1 → DepP V R1 all fun L => HL P l.toArray Q N (L ++ F) E R1 As (l.drop k)) (hds : dsts (l.take k) = some ds := by rfl) (hm : P.follows .mixedOrders = true := by kernel_rfl) (hok : drawOk l.toArray (pre.map (·.1)) k n = true := by kernel_rfl) (hk : Nat.ble k l.length = true := by kernel_rfl) (hnd : ds.Nodup := by decide) (hF : (ds.all fun d => (lk F d).isNone) = true := by rfl) (hjs : js.map (·.1) = List.range' 0 k := by kernel_rfl) (hall : all.map (·.1) = List.range k := by kernel_rfl) (halld : (all.all fun p => Nat.beq (dstOf l.toArray p.1) p.2) = true := by kernel_rfl) (hdep : (js.all fun q => q.2.all fun p => Nat.blt p.1 k && Nat.beq (dstOf l.toArray p.1) p.2 && match l[q.1]? with | some o => o.after.toList.any fun e => Region.binds .any e && Nat.beq e.on p.1 | none => false) = true := by kernel_rfl) (hprek : ((pre.map (·.1)).all fun i => Nat.blt i k) = true := by rfl) (hsel : pre ≠ [] → Region.noSelect l.toArray = true := by (intro _; kernel_rfl)) (hQ : ∀ c d v a w, Q (.panic c) (a.put d v) w → Q (.panic c) a w := by (intro c d v a w h; cases d <;> exact h)) (hpreOk : preOk l.toArray (Array.replicate l.length false) (pre.map (·.1)) = true := by kernel_rfl) (hprend : (pre.map (·.1)).Nodup := by simp) (hpreV : ∀ p ∈ pre, ∀ R, V p.1 R p.2.2 := by (intro p hp; simp only [List.mem_cons, List.not_mem_nil, or_false] at hp; (first | (rcases hp with rfl; exact fun _ => rfl) | (rcases hp with rfl | rfl <;> exact fun _ => rfl) | (rcases hp with rfl | rfl | rfl <;> exact fun _ => rfl) | (rcases hp with rfl | rfl | rfl | rfl <;> exact fun _ => rfl) | (rcases hp with rfl | rfl | rfl | rfl | rfl <;> exact fun _ => rfl) | (rcases hp with rfl | rfl | rfl | rfl | rfl | rfl <;> exact fun _ => rfl) | (rcases hp with rfl | rfl | rfl | rfl | rfl | rfl | rfl <;> exact fun _ => rfl) | (rcases hp with rfl | rfl | rfl | rfl | rfl | rfl | rfl | rfl <;> exact fun _ => rfl) | (rcases hp with rfl | rfl | rfl | rfl | rfl | rfl | rfl | rfl | rfl <;> exact fun _ => rfl) | (rcases hp with rfl | rfl | rfl | rfl | rfl | rfl | rfl | rfl | rfl | rfl <;> exact fun _ => rfl) | (rcases hp with rfl | rfl | rfl | rfl | rfl | rfl | rfl | rfl | rfl | rfl | rfl <;> exact fun _ => rfl) | (rcases hp with rfl | rfl | rfl | rfl | rfl | rfl | rfl | rfl | rfl | rfl | rfl | rfl <;> exact fun _ => rfl)))) : HC P Q N F E R As (.region id l.toArray true) := HC_drawP pre k n V js all hm hok hk hds hnd hF hjs hall halld hdep hprek hsel hQ hpreR hpreOk hprend hpreV hmono hop htail
theorem is71 : IsFn Tryz.prog 71 := isf
theorem is77 : IsFn Tryz.prog 77 := isf
theorem is120 : IsFn Tryz.prog 120 := isf
theorem is125 : IsFn Tryz.prog 125 := isf
theorem is169 : IsFn Tryz.prog 169 := isf
theorem is170 : IsFn Tryz.prog 170 := isf
theorem is171 : IsFn Tryz.prog 171 := isf
theorem is172 : IsFn Tryz.prog 172 := isf
theorem is173 : IsFn Tryz.prog 173 := isf
theorem is277 : IsFn Tryz.prog 277 := isf
end Go.Sx

/-! Plain lists: the order of texts, what a stable sort is, and what its steps keep. No program in sight. -/
namespace Go.Sx
open Go

/-! ## The order of texts -/
def bl (x y : List UInt8) : Bool := Op.bytesLess x y

theorem bl_nil_right (x : List UInt8) : bl x [] = false := by cases x <;> rfl
theorem bl_cons (a b : UInt8) (x y : List UInt8) : bl (a :: x) (b :: y) = (decide (a < b) || (a == b && bl x y)) := rfl
theorem bl_irrefl (x : List UInt8) : bl x x = false := by
 induction x with
 | nil => rfl
 | cons a t ih => rw [bl_cons, ih]; simp
theorem bl_trans : ∀ {x y z : List UInt8}, bl x y = true → bl y z = true → bl x z = true := by
 intro x
 induction x with
 | nil =>
  intro y z h1 h2
  cases z with
  | nil => rw [bl_nil_right] at h2; cases h2
  | cons c t => rfl
 | cons a x ih =>
  intro y z h1 h2
  cases y with
  | nil => rw [bl_nil_right] at h1; cases h1
  | cons b y =>
   cases z with
   | nil => rw [bl_nil_right] at h2; cases h2
   | cons c z =>
    rw [bl_cons] at h1 h2 ⊢
    simp only [Bool.or_eq_true, decide_eq_true_eq, Bool.and_eq_true, beq_iff_eq] at h1 h2 ⊢
    rcases h1 with h1 | ⟨rfl, h1⟩
    ·rcases h2 with h2 | ⟨rfl, h2⟩
     ·exact .inl (UInt8.lt_trans h1 h2)
     exact .inl h1
    rcases h2 with h2 | ⟨rfl, h2⟩
    ·exact .inl h2
    exact .inr ⟨rfl, ih h1 h2⟩
theorem bl_tri (x y : List UInt8) : bl x y = true ∨ x = y ∨ bl y x = true := by
 induction x generalizing y with
 | nil => cases y with
  | nil => exact .inr (.inl rfl)
  | cons b y => exact .inl rfl
 | cons a x ih => cases y with
  | nil => exact .inr (.inr rfl)
  | cons b y =>
   rw [bl_cons, bl_cons]
   simp only [Bool.or_eq_true, decide_eq_true_eq, Bool.and_eq_true, beq_iff_eq, List.cons.injEq]
   rcases UInt8.lt_or_lt_of_ne (a := a) (b := b) |> fun h => (Classical.em (a = b)) with rfl | hne
   ·rcases ih y with h | rfl | h
    ·exact .inl (.inr ⟨rfl, h⟩)
    ·exact .inr (.inl ⟨rfl, rfl⟩)
    exact .inr (.inr (.inr ⟨rfl, h⟩))
   rcases UInt8.lt_or_lt_of_ne hne with h | h
   ·exact .inl (.inl h)
   exact .inr (.inr (.inl h))
theorem bl_asymm {x y : List UInt8} (h : bl x y = true) : bl y x = false := by
 cases h2 : bl y x with
 | false => rfl
 | true => rw [← bl_irrefl x]; exact (bl_trans h h2).symm
/-- Not greater. -/
def ble (x y : List UInt8) : Prop := bl y x = false
theorem ble_refl (x : List UInt8) : ble x x := bl_irrefl x
theorem ble_trans {x y z : List UInt8} (h1 : ble x y) (h2 : ble y z) : ble x z := by
 unfold ble at *
 cases h : bl z x with
 | false => rfl
 | true =>
  rcases bl_tri y x with h3 | rfl | h3
  ·rw [h3] at h1; cases h1
  ·rw [h] at h2; cases h2
  rw [bl_trans h h3] at h2; cases h2
theorem ble_of_bl {x y : List UInt8} (h : bl x y = true) : ble x y := bl_asymm h
theorem bl_of_bl_ble {x y z : List UInt8} (h1 : bl x y = true) (h2 : ble y z) : bl x z = true := by
 rcases bl_tri x z with h | rfl | h
 ·exact h
 ·unfold ble at h2; rw [h1] at h2; cases h2
 unfold ble at h2; rw [bl_trans h h1] at h2; cases h2
theorem bl_of_ble_bl {x y z : List UInt8} (h1 : ble x y) (h2 : bl y z = true) : bl x z = true := by
 rcases bl_tri x z with h | rfl | h
 ·exact h
 ·unfold ble at h1; rw [h2] at h1; cases h1
 unfold ble at h1; rw [bl_trans h2 h] at h1; cases h1
theorem ble_antisymm {x y : List UInt8} (h1 : ble x y) (h2 : ble y x) : x = y := by
 rcases bl_tri x y with h | h | h
 ·unfold ble at h2; rw [h] at h2; cases h2
 ·exact h
 unfold ble at h1; rw [h] at h1; cases h1

/-! ## Stability: of each key the same elements, in the same order -/
section
variable {α : Type} (key : α → List UInt8)

def StEq (l l' : List α) : Prop := ∀ k, l.filter (fun x => key x == k) = l'.filter (fun x => key x == k)
def SortedK (l : List α) : Prop := l.Pairwise fun x y => ble (key x) (key y)
end

section
variable {α : Type} {key : α → List UInt8}
theorem StEq.refl (l : List α) : StEq key l l := fun _ => rfl
theorem StEq.trans {a b c : List α} (h1 : StEq key a b) (h2 : StEq key b c) : StEq key a c := fun k => (h1 k).trans (h2 k)
theorem StEq.symm {a b : List α} (h : StEq key a b) : StEq key b a := fun k => (h k).symm
theorem StEq.app {a a' b b' : List α} (h1 : StEq key a a') (h2 : StEq key b b') : StEq key (a ++ b) (a' ++ b') := fun k => by
 rw [List.filter_append, List.filter_append, h1 k, h2 k]
/-- Two pieces that have no key in common may change places. -/
theorem StEq.swap {x y : List α} (h : ∀ a ∈ x, ∀ b ∈ y, key a ≠ key b) : StEq key (x ++ y) (y ++ x) := fun k => by
 rw [List.filter_append, List.filter_append]
 by_cases hx : ∃ a ∈ x, key a = k
 ·obtain ⟨a, ha, rfl⟩ := hx
  have : y.filter (fun b => key b == key a) = [] := by
   rw [List.filter_eq_nil_iff]
   intro b hb
   simpa using fun e => h a ha b hb e.symm
  rw [this]; simp
 have : x.filter (fun b => key b == k) = [] := by
  rw [List.filter_eq_nil_iff]
  intro b hb
  simpa using fun e => hx ⟨b, hb, e⟩
 rw [this]; simp
theorem StEq.mem {a b : List α} (h : StEq key a b) (x : α) : x ∈ a ↔ x ∈ b := by
 have := h (key x)
 constructor
 ·intro hx
  have h1 : x ∈ a.filter (fun y => key y == key x) := List.mem_filter.2 ⟨hx, by simp⟩
  rw [this] at h1
  exact (List.mem_filter.1 h1).1
 intro hx
 have h1 : x ∈ b.filter (fun y => key y == key x) := List.mem_filter.2 ⟨hx, by simp⟩
 rw [← this] at h1
 exact (List.mem_filter.1 h1).1

/-- A stable sort's result is one. -/
theorem sorted_unique : ∀ {a b : List α}, SortedK key a → SortedK key b → StEq key a b → a = b := by
 intro a
 induction a with
 | nil =>
  intro b _ _ h
  cases b with
  | nil => rfl
  | cons y t => have := (h.mem y).2 (by simp); cases this
 | cons x a ih =>
  intro b ha hb h
  cases b with
  | nil => have := (h.mem x).1 (by simp); cases this
  | cons y b =>
   have hx : ∀ z ∈ a, ble (key x) (key z) := (List.pairwise_cons.1 ha).1
   have hy : ∀ z ∈ b, ble (key y) (key z) := (List.pairwise_cons.1 hb).1
   have hxy : key x = key y := by
    refine ble_antisymm ?_ ?_
    ·rcases List.mem_cons.1 ((h.mem y).2 (by simp)) with rfl | hm
     ·exact ble_refl _
     exact hx y hm
    rcases List.mem_cons.1 ((h.mem x).1 (by simp)) with rfl | hm
    ·exact ble_refl _
    exact hy x hm
   have h1 := h (key x)
   simp only [List.filter_cons, beq_self_eq_true, if_true] at h1
   rw [if_pos (by simp [hxy])] at h1
   injection h1 with e1 e2
   subst e1
   congr 1
   refine ih (List.pairwise_cons.1 ha).2 (List.pairwise_cons.1 hb).2 (fun k => ?_)
   have h2 := h k
   simp only [List.filter_cons] at h2
   split at h2
   ·injection h2
   exact h2

/-- Stable insertion from the right; the stable sort. -/
def insK (key : α → List UInt8) (x : α) : List α → List α
 | [] => [x]
 | y :: t => bif bl (key y) (key x) then y :: insK key x t else x :: y :: t
def sortK (key : α → List UInt8) : List α → List α
 | [] => []
 | x :: t => insK key x (sortK key t)

theorem mem_insK (x z : α) : ∀ l, z ∈ insK key x l ↔ z = x ∨ z ∈ l := by
 intro l
 induction l with
 | nil => simp [insK]
 | cons y t ih =>
  simp only [insK]
  cases bl (key y) (key x) with
  | true => simp only [cond_true, List.mem_cons, ih]; constructor <;> (rintro (h | h | h) <;> simp [h])
  | false => simp
theorem sorted_insK (x : α) : ∀ l, SortedK key l → SortedK key (insK key x l) := by
 intro l
 induction l with
 | nil => intro _; simp [insK, SortedK]
 | cons y t ih =>
  intro h
  obtain ⟨h1, h2⟩ := List.pairwise_cons.1 h
  simp only [insK]
  cases hb : bl (key y) (key x) with
  | true =>
   refine List.pairwise_cons.2 ⟨fun z hz => ?_, ih h2⟩
   rcases (mem_insK x z t).1 hz with rfl | hz
   ·exact ble_of_bl hb
   exact h1 z hz
  | false =>
   refine List.pairwise_cons.2 ⟨fun z hz => ?_, h⟩
   rcases List.mem_cons.1 hz with rfl | hz
   ·exact hb
   exact ble_trans hb (h1 z hz)
theorem steq_insK (x : α) : ∀ l, StEq key (x :: l) (insK key x l) := by
 intro l
 induction l with
 | nil => exact .refl _
 | cons y t ih =>
  simp only [insK]
  cases hb : bl (key y) (key x) with
  | true =>
   have h1 : StEq key ([x] ++ [y]) ([y] ++ [x]) := .swap (by
    intro a ha b hb' e
    simp at ha hb'
    subst ha; subst hb'
    rw [e, bl_irrefl] at hb; cases hb)
   exact (h1.app (.refl t)).trans (StEq.app (.refl [y]) ih)
  | false => exact .refl _
theorem sorted_sortK (l : List α) : SortedK key (sortK key l) := by
 induction l with
 | nil => exact List.Pairwise.nil
 | cons x t ih => exact sorted_insK x _ ih
theorem steq_sortK (l : List α) : StEq key l (sortK key l) := by
 induction l with
 | nil => exact .refl _
 | cons x t ih => exact (StEq.app (.refl [x]) ih).trans (steq_insK x _)
/-- What is sorted, and of each key the same elements in the same order, is the stable sort. -/
theorem sortK_of {l l' : List α} (hs : SortedK key l') (he : StEq key l l') : l' = sortK key l :=
 sorted_unique hs (sorted_sortK l) (he.symm.trans (steq_sortK l))
theorem length_insK (x : α) (l : List α) : (insK key x l).length = l.length + 1 := by
 induction l with
 | nil => rfl
 | cons y t ih => simp only [insK]; cases bl (key y) (key x) <;> simp [ih]
theorem length_sortK (l : List α) : (sortK key l).length = l.length := by
 induction l with
 | nil => rfl
 | cons x t ih => simp [sortK, length_insK, ih]
theorem mem_sortK (l : List α) (x : α) : x ∈ sortK key l ↔ x ∈ l := ((steq_sortK l).mem x).symm
end
end Go.Sx

/-! More rules: elements of an owned array, conversions, halves, the comparison of texts. Generic: no program is named. -/
namespace Go.Sx
open Go Go.RowKit

section
variable {P : Program} {ops : Array Oper} {Q : Exit → Act → World → Prop} {N : Nat} {F : List (Nat × Value)} {E : Env} {R : Frag} {As As' : List Ent}
variable {d : Nat} {ty : TypeId} {pos : String} {af : Array Edge} {l : List Oper} {x y : Operand} {v u : Value} {T : TypeId}

/-- The newest value, spelled otherwise. -/
theorem HL_eq {v v' : Value} (e : v = v') (k : HL P ops Q N ((d, v') :: F) E R As l) : HL P ops Q N ((d, v) :: F) E R As l := e ▸ k

theorem HL_indexAddrI {b off n cap e j : Nat} {i : Int} {te : TypeId} {kd : IntKind} {agg : Bool} (hd : Nat.blt d N = true) (hT : P.underlying T = some (.slice te)) (he : Ty P te agg e)
  (hx : ev F x = some (.slice (some ⟨b, off, none⟩) n cap)) (hy : ev F y = some (.int kd i)) (hij : i = (j : Int)) (hj : j < n)
  (k : HL P ops Q N ((d, .pointer (some ⟨b, off + j * e, none⟩)) :: F) E R As l) : HL P ops Q N F E R As (⟨some d, .indexAddr T x y, ty, pos, af, none⟩ :: l) := by
 subst hij
 exact HL_indexAddr hd hT he hx hy hj k

theorem flatten_at {sz : Nat} {arr : List (List Value)} {rest : List Value} (hsz : ∀ c ∈ arr, c.length = sz) {j : Nat} {e : List Value} (hj : arr[j]? = some e) : cut (arr.flatten ++ rest) (0 + j * sz) sz = some e := by
 rw [Nat.zero_add]; exact flatten_cut sz arr rest hsz j e hj

theorem flatten_len {sz : Nat} {arr : List (List Value)} (hsz : ∀ c ∈ arr, c.length = sz) : arr.flatten.length = arr.length * sz := by
 induction arr with
 | nil => simp
 | cons c t ih =>
  simp only [List.flatten_cons, List.length_append, List.length_cons]
  rw [ih (fun c hc => hsz c (by simp [hc])), hsz c (by simp), Nat.add_mul]
  omega

theorem spl_append (a : List Value) : ∀ (b vs : List Value), spl (a ++ b) a.length vs = a ++ spl b 0 vs := by
 induction a with
 | nil => intro b vs; rfl
 | cons c t ih => intro b vs; simp [spl, ih]
theorem spl_head : ∀ (c b vs : List Value), vs.length = c.length → spl (c ++ b) 0 vs = vs ++ b := by
 intro c
 induction c with
 | nil => intro b vs h; have : vs = [] := List.eq_nil_of_length_eq_zero (by simpa using h); subst this; simp [spl_nil]
 | cons x t ih => intro b vs h; cases vs with
  | nil => simp at h
  | cons v vt => simp [spl, ih b vt (by simpa using h)]

theorem flatten_set {sz : Nat} {arr : List (List Value)} {rest : List Value} (hsz : ∀ c ∈ arr, c.length = sz) {j : Nat} (hj : j < arr.length) {e : List Value} (he : e.length = sz) :
  spl (arr.flatten ++ rest) (0 + j * sz) e = (arr.set j e).flatten ++ rest := by
 rw [Nat.zero_add]
 induction arr generalizing j with
 | nil => simp at hj
 | cons c t ih =>
  have hc := hsz c (by simp)
  cases j with
  | zero =>
   simp only [List.flatten_cons, List.append_assoc, Nat.zero_mul, List.set_cons_zero]
   exact spl_head c _ e (by omega)
  | succ j =>
   simp only [List.flatten_cons, List.append_assoc, List.set_cons_succ]
   have e1 : (j + 1) * sz = c.length + j * sz := by rw [hc, Nat.add_mul]; omega
   have h2 := ih (fun c hc => hsz c (by simp [hc])) (by simpa using hj)
   have e3 : ∀ (off : Nat) (b vs : List Value), spl (c ++ b) (c.length + off) vs = c ++ spl b off vs := by
    intro off b vs
    clear ih h2 hsz hc e1 hj
    induction c with
    | nil => simp
    | cons x ct ihc =>
     have : (x :: ct).length + off = (ct.length + off) + 1 := by simp; omega
     rw [this]
     simp [spl, ihc]
   rw [e1, e3, h2]

theorem HL_loadEl {b j sz TT : Nat} {arr : List (List Value)} {rest e : List Value} (hd : Nat.blt d N = true) (hT : Ty P T true sz) (hx : ev F x = some (.pointer (some ⟨b, 0 + j * sz, none⟩)))
  (hm : Mem As (blk b (arr.flatten ++ rest) TT)) (hsz : ∀ c ∈ arr, c.length = sz) (hj : arr[j]? = some e) (k : HL P ops Q N ((d, .agg e.toArray) :: F) E R As l) :
  HL P ops Q N F E R As (⟨some d, .load T x, ty, pos, af, none⟩ :: l) :=
 HL_load_agg hd hT hx (.own hm (flatten_at hsz hj)) k

theorem HL_storeEl {b j sz TT : Nat} {arr : List (List Value)} {rest e : List Value} (hT : Ty P T true sz) (hx : ev F x = some (.pointer (some ⟨b, 0 + j * sz, none⟩))) (hy : ev F y = some (.agg e.toArray))
  (hs : Sel As (blk b (arr.flatten ++ rest) TT) (blk b ((arr.set j e).flatten ++ rest) TT) As') (hsz : ∀ c ∈ arr, c.length = sz) (he : e.length = sz) (ho : ones e = true) (hj : j < arr.length)
  (k : HL P ops Q N F E R As' l) : HL P ops Q N F E R As (⟨none, .store T x y, ty, pos, af, none⟩ :: l) := by
 subst he
 refine HL_store (vs := e) (cs := arr.flatten ++ rest) (TT := TT) hT hx hy rfl ho (As' := As') ?_ ?_ k
 ·rw [flatten_set hsz hj rfl]; exact hs
 have h1 := flatten_len hsz
 have h2 : j * e.length + e.length ≤ arr.length * e.length := by
  have : (j + 1) * e.length ≤ arr.length * e.length := Nat.mul_le_mul_right _ hj
  rw [Nat.add_mul] at this; omega
 rw [Nat.ble_eq, List.length_append, h1]
 omega

/-! ### Numbers -/
theorem HL_conv {src dst : Nat} {kd kd' : IntKind} {a z : Int} (hd : Nat.blt d N = true) (hs : ∃ D, P.underlying src = some D) (hT : P.underlying dst = some (.int kd)) (hx : ev F x = some (.int kd' a)) (hz : kd.wrap a = z)
  (k : HL P ops Q N ((d, .int kd z) :: F) E R As l) : HL P ops Q N F E R As (⟨some d, .convert src dst x, ty, pos, af, none⟩ :: l) :=
 HL_same hd (fun a' w ha _ => by
  obtain ⟨D, hD⟩ := hs
  simp [execOp, convert, run_underlying' hD, run_underlying' hT, ha.eval hx, Conv.intToInt, hz]) k
theorem HL_shr {yT : TypeId} {kd kd' : IntKind} {a n z : Int} (hd : Nat.blt d N = true) (hx : ev F x = some (.int kd a)) (hy : ev F y = some (.int kd' n)) (hn : 0 ≤ n) (hz : a.fdiv (2 ^ (min n.toNat kd.bits)) = z)
  (k : HL P ops Q N ((d, .int kd z) :: F) E R As l) : HL P ops Q N F E R As (⟨some d, .binOp .shr T x y yT, ty, pos, af, none⟩ :: l) :=
 HL_bin hd hx hy (fun w => by
  have hn' : ¬ n < 0 := by omega
  simp [eqGuard, binOp, Op.shift, hn', hz]) k
theorem half_u64 (a : Nat) : ((a : Int)).fdiv (2 ^ (min (1 : Int).toNat IntKind.u64.bits)) = ((a / 2 : Nat) : Int) := by
 show ((a : Int)).fdiv 2 = _
 rw [Int.fdiv_eq_ediv_of_nonneg _ (by omega)]
 omega
theorem HL_mul {yT : TypeId} {a b : Int} (hd : Nat.blt d N = true) (hx : ev F x = some (.int .i64 a)) (hy : ev F y = some (.int .i64 b))
  (h1 : -9223372036854775808 ≤ a * b) (h2 : a * b ≤ 9223372036854775807) (k : HL P ops Q N ((d, .int .i64 (a * b)) :: F) E R As l) :
  HL P ops Q N F E R As (⟨some d, .binOp .mul T x y yT, ty, pos, af, none⟩ :: l) :=
 HL_bin hd hx hy (fun w => by simp [eqGuard, binOp, Op.intArith, IntWalk.i64_in _ ⟨h1, h2⟩]) k

end

/-! ## The comparison of texts -/
def cmpT (x y : List UInt8) : Int := if bl x y then -1 else if x = y then 0 else 1
theorem cmpT_neg {x y : List UInt8} : cmpT x y < 0 ↔ bl x y = true := by
 unfold cmpT
 cases h : bl x y with
 | true => simp
 | false => by_cases e : x = y <;> simp [e]
theorem compareBytes_eq : ∀ (x y : List UInt8), Lib.compareBytes x y = cmpT x y := by
 intro x
 induction x with
 | nil => intro y; cases y <;> rfl
 | cons a t ih =>
  intro y
  cases y with
  | nil => simp [Lib.compareBytes, cmpT, bl_nil_right]
  | cons b u =>
   simp only [Lib.compareBytes, cmpT, bl_cons, ih]
   by_cases h1 : a < b
   ·simp [h1]
   by_cases h2 : b < a
   ·have hne : ¬ a = b := fun e => by subst e; exact h1 h2
    simp [h1, h2, hne]
   have he : a = b := UInt8.le_antisymm (UInt8.not_lt.1 h2) (UInt8.not_lt.1 h1)
   subst he
   simp

/-! ## Texts -/
def kb (s : ByteArray) : List UInt8 := s.data.toList
theorem kb_inj {a b : ByteArray} (h : kb a = kb b) : a = b := by
 cases a with | mk a => cases b with | mk b =>
 congr 1
 exact Array.ext' h
section
variable {P : Program} {ops : Array Oper} {Q : Exit → Act → World → Prop} {N : Nat} {F : List (Nat × Value)} {E : Env} {R : Frag} {As As' : List Ent}
variable {d : Nat} {ty : TypeId} {pos : String} {af : Array Edge} {l : List Oper} {x y : Operand} {T yT : TypeId} {a b : ByteArray}
theorem toList_beq (a b : ByteArray) : (a.toList == b.toList) = decide (a = b) := by
 rw [ByteArray.toList_eq, ByteArray.toList_eq]
 rw [Bool.eq_iff_iff]
 simp only [beq_iff_eq, decide_eq_true_eq]
 exact ⟨fun h => kb_inj h, fun h => by rw [h]⟩
theorem HL_eqlS (hd : Nat.blt d N = true) (hx : ev F x = some (.string a)) (hy : ev F y = some (.string b)) (k : HL P ops Q N ((d, .bool (decide (a = b))) :: F) E R As l) :
  HL P ops Q N F E R As (⟨some d, .binOp .eql T x y yT, ty, pos, af, none⟩ :: l) :=
 HL_bin hd hx hy (fun w => by simp [eqGuard, binOp, Op.stringOp, toList_beq]) k
theorem HL_neqS (hd : Nat.blt d N = true) (hx : ev F x = some (.string a)) (hy : ev F y = some (.string b)) (k : HL P ops Q N ((d, .bool (!decide (a = b))) :: F) E R As l) :
  HL P ops Q N F E R As (⟨some d, .binOp .neq T x y yT, ty, pos, af, none⟩ :: l) :=
 HL_bin hd hx hy (fun w => by simp [eqGuard, binOp, Op.stringOp, toList_beq]) k
theorem HL_lssS (hd : Nat.blt d N = true) (hx : ev F x = some (.string a)) (hy : ev F y = some (.string b)) (k : HL P ops Q N ((d, .bool (bl (kb a) (kb b))) :: F) E R As l) :
  HL P ops Q N F E R As (⟨some d, .binOp .lss T x y yT, ty, pos, af, none⟩ :: l) :=
 HL_bin hd hx hy (fun w => by simp [eqGuard, binOp, Op.stringOp, bl, kb, ByteArray.toList_eq]) k
theorem HL_gtrS (hd : Nat.blt d N = true) (hx : ev F x = some (.string a)) (hy : ev F y = some (.string b)) (k : HL P ops Q N ((d, .bool (bl (kb b) (kb a))) :: F) E R As l) :
  HL P ops Q N F E R As (⟨some d, .binOp .gtr T x y yT, ty, pos, af, none⟩ :: l) :=
 HL_bin hd hx hy (fun w => by
  have hkey : (!(bl (kb a) (kb b) || kb a == kb b)) = bl (kb b) (kb a) := by
   rw [Bool.eq_iff_iff]
   rcases bl_tri (kb a) (kb b) with h | h | h
   ·simp [h, bl_asymm h]
   ·simp [h, bl_irrefl]
   have h2 := bl_asymm h
   have h3 : kb a ≠ kb b := fun e => by rw [e, bl_irrefl] at h; cases h
   simp [h, h2, h3]
  show (Result.ok (Value.bool (!(Op.bytesLess a.toList b.toList || a.toList == b.toList))) w : Result Value) = _
  rw [ByteArray.toList_eq, ByteArray.toList_eq, ← hkey]
  rfl) k
end

/-! ## Elements: what they are sorted by -/
/-- An element of a list of attributes: its key, then its value's cells. -/
def isEl (sz : Nat) (e : List Value) : Prop := e.length = sz ∧ (∃ k t, e = .string k :: t) ∧ ones e = true
def ekey : List Value → List UInt8
 | .string k :: _ => kb k
 | _ => []
/-- A function that compares two elements by their keys. -/
def CmpOk (P : Program) (g sz : Nat) : Prop := ∀ R e1 e2, isEl sz e1 → isEl sz e2 → Pure P g [.agg e1.toArray, .agg e2.toArray] R (fun _ r => r = .int .i64 (cmpT (ekey e1) (ekey e2)))
theorem isEl.eight {e : List Value} (h : isEl 8 e) : ∃ k c0 c1 c2 c3 c4 c5 c6, e = [.string k, c0, c1, c2, c3, c4, c5, c6] := by
 obtain ⟨h1, ⟨k, t, rfl⟩, _⟩ := h
 match t, h1 with
 | [c0, c1, c2, c3, c4, c5, c6], _ => exact ⟨k, c0, c1, c2, c3, c4, c5, c6, rfl⟩
theorem isEl.five {e : List Value} (h : isEl 5 e) : ∃ k c0 c1 c2 c3, e = [.string k, c0, c1, c2, c3] := by
 obtain ⟨h1, ⟨k, t, rfl⟩, _⟩ := h
 match t, h1 with
 | [c0, c1, c2, c3], _ => exact ⟨k, c0, c1, c2, c3, rfl⟩
end Go.Sx

/-! Numbers of places: sums and differences spelled as natural numbers. Generic: no program is named. -/
namespace Go.Sx
open Go Go.RowKit
section
variable {P : Program} {ops : Array Oper} {Q : Exit → Act → World → Prop} {N : Nat} {F : List (Nat × Value)} {E : Env} {R : Frag} {As As' : List Ent}
variable {d : Nat} {ty : TypeId} {pos : String} {af : Array Edge} {l : List Oper} {x y : Operand} {T yT : TypeId}
theorem HL_addN {a b : Int} {c : Nat} (hd : Nat.blt d N = true) (hx : ev F x = some (.int .i64 a)) (hy : ev F y = some (.int .i64 b)) (h : a + b = (c : Int)) (hc : c ≤ 1000000000)
  (k : HL P ops Q N ((d, .int .i64 (c : Int)) :: F) E R As l) : HL P ops Q N F E R As (⟨some d, .binOp .add T x y yT, ty, pos, af, none⟩ :: l) := by
 refine HL_add hd hx hy (by omega) (by omega) ?_
 rw [h]; exact k
theorem HL_subN {a b : Int} {c : Nat} (hd : Nat.blt d N = true) (hx : ev F x = some (.int .i64 a)) (hy : ev F y = some (.int .i64 b)) (h : a - b = (c : Int)) (hc : c ≤ 1000000000)
  (k : HL P ops Q N ((d, .int .i64 (c : Int)) :: F) E R As l) : HL P ops Q N F E R As (⟨some d, .binOp .sub T x y yT, ty, pos, af, none⟩ :: l) := by
 refine HL_sub' hd hx hy (by omega) (by omega) ?_
 rw [h]; exact k
theorem HL_mulN {a b : Int} {c : Nat} (hd : Nat.blt d N = true) (hx : ev F x = some (.int .i64 a)) (hy : ev F y = some (.int .i64 b)) (h : a * b = (c : Int)) (hc : c ≤ 1000000000)
  (k : HL P ops Q N ((d, .int .i64 (c : Int)) :: F) E R As l) : HL P ops Q N F E R As (⟨some d, .binOp .mul T x y yT, ty, pos, af, none⟩ :: l) := by
 refine HL_mul hd hx hy (by omega) (by omega) ?_
 rw [h]; exact k
/-- A tell's answer, known. -/
theorem HL_boolE {b b' : Bool} (e : b = b') (k : HL P ops Q N ((d, .bool b') :: F) E R As l) : HL P ops Q N ((d, .bool b) :: F) E R As l := e ▸ k
/-- Half of a sum, by way of unsigned numbers: what comes of the three steps. -/
theorem wrap_u64 (a : Nat) (h : a ≤ 1000000000) : IntKind.u64.wrap (a : Int) = (a : Int) := by
 refine IntWalk.u64_in _ ⟨by omega, by omega⟩
theorem wrap_i64 (a : Nat) (h : a ≤ 1000000000) : IntKind.i64.wrap (a : Int) = (a : Int) := by
 refine IntWalk.i64_in _ ⟨by omega, by omega⟩
end
end Go.Sx

/-! Rules for chains of tests: a stretch of operations that yields a bool, cut off; a bool, told apart. Generic: no program is named. -/
namespace Go.Sx
open Go Go.RowKit
section
variable {P : Program} {ops : Array Oper} {Q : Exit → Act → World → Prop} {N : Nat} {F : List (Nat × Value)} {E : Env} {R : Frag} {As As' : List Ent}
variable {d : Nat} {ty : TypeId} {pos : String} {af : Array Edge} {l : List Oper} {x y : Operand} {T yT : TypeId}

def SQ (N : Nat) (E : Env) (d : Nat) (F : List (Nat × Value)) (Φ : Bool → Frag → List Ent → Prop) : Exit → Act → World → Prop
 | .normal, a, w => ∃ c R' As', Φ c R' As' ∧ Fr a N ((d, .bool c) :: F) ∧ St E w R' As'
 | _, _, _ => False

theorem wpList_cut {Q1 Q : Exit → Act → World → Prop} {l2 : List Oper} (h : ∀ a w, Q1 .normal a w → wpList P ops Q l2 a w) (hp : ∀ c a w, ¬ Q1 (.panic c) a w) (hg : ∀ a w, ¬ Q1 .outgrown a w) :
  ∀ (l1 : List Oper) (a : Act) (w : World), wpList P ops Q1 l1 a w → wpList P ops Q (l1 ++ l2) a w := by
 intro l1
 induction l1 with
 | nil => intro a w hw; exact h a w hw
 | cons o t ih =>
  intro a w hw
  simp only [List.cons_append]
  unfold wpList at hw ⊢
  split at hw
  ·rename_i hwant
   rw [if_pos hwant]
   rcases hw with hw | ⟨_, a₀, w₀, hq⟩
   ·exact .inl (wp_mono2 (fun a w h => ih a w h) hp hg hw)
   exact absurd hq (hg _ _)
  rename_i hwant
  rw [if_neg hwant]
  exact ih _ _ hw

/-- A stretch of n operations that yields a bool. -/
theorem HL_seg (n d : Nat) (Φ : Bool → Frag → List Ent → Prop) (h1 : HL P ops (SQ N E d F Φ) N F E R As (l.take n)) (h2 : ∀ c R' As', Φ c R' As' → HL P ops Q N ((d, .bool c) :: F) E R' As' (l.drop n)) :
  HL P ops Q N F E R As l := fun a w ha hs => by
 have := wpList_cut (Q1 := SQ N E d F Φ) (Q := Q) (l2 := l.drop n) (fun a w hq => by
  obtain ⟨c, R', As', h, hf, hst⟩ := hq
  exact h2 c R' As' h a w hf hst) (fun _ _ _ h => h) (fun _ _ h => h) (l.take n) a w (h1 a w ha hs)
 rwa [List.take_append_drop] at this
theorem HQ_seg {d : Nat} {F₀ : List (Nat × Value)} {Φ : Bool → Frag → List Ent → Prop} {c : Bool} (hsub : Sub F ((d, .bool c) :: F₀)) (h : Φ c R As) : HQ (SQ N E d F₀ Φ) N F E R As .normal :=
 fun _ _ ha hst => ⟨c, R, As, h, ha.sub hsub, hst⟩
/-- The same, of a stretch that leaves all as it is. -/
theorem HL_segp (n d : Nat) (Φ : Bool → Prop) (h1 : HL P ops (SQ N E d F (fun c R' As' => R' = R ∧ As' = As ∧ Φ c)) N F E R As (l.take n)) (h2 : ∀ c, Φ c → HL P ops Q N ((d, .bool c) :: F) E R As (l.drop n)) :
  HL P ops Q N F E R As l := HL_seg n d (fun c R' As' => R' = R ∧ As' = As ∧ Φ c) h1 (by rintro c R' As' ⟨rfl, rfl, h⟩; exact h2 c h)
theorem HQ_segp {d : Nat} {F₀ : List (Nat × Value)} {Φ : Bool → Prop} {c : Bool} (hsub : Sub F ((d, .bool c) :: F₀)) (h : Φ c) : HQ (SQ N E d F₀ (fun c R' As' => R' = R ∧ As' = As ∧ Φ c)) N F E R As .normal :=
 HQ_seg hsub ⟨rfl, rfl, h⟩
/-- A bool, told apart. -/
theorem HL_move_b {b : Bool} (hd : Nat.blt d N = true) (hx : ev F x = some (.bool b)) (kt : b = true → HL P ops Q N ((d, .bool true) :: F) E R As l) (kf : b = false → HL P ops Q N ((d, .bool false) :: F) E R As l) :
  HL P ops Q N F E R As (⟨some d, .move x, ty, pos, af, none⟩ :: l) := by
 refine HL_move hd hx ?_
 cases b with
 | true => exact kt rfl
 | false => exact kf rfl
/-- An operation whose guard was itself left out. -/
theorem HL_guard_un {op : Op} {j t : Nat} {b : Bool} (hd : Nat.blt d N = true) (hj : (ops[j]?).bind (·.dst) = some t) (ht : lk F t = some undef)
  (k : HL P ops Q N ((d, undef) :: F) E R As l) : HL P ops Q N F E R As (⟨some d, op, ty, pos, af, some (j, b)⟩ :: l) := fun a w ha hs => by
 have hy : Region.wanted ⟨some d, op, ty, pos, af, some (j, b)⟩ (yielded ops a.tmps) = false := by
  simp only [Region.wanted, yielded, hj, Option.bind_some, ha.look t _ ht]
  rfl
 unfold wpList
 rw [if_neg (by rw [hy]; simp)]
 exact k _ _ (ha.put hd) hs
end
theorem zsp {N : Nat} {F : List (Nat × Value)} {E : Env} {R : Frag} {As : List Ent} {d : Nat} {F₀ : List (Nat × Value)} {Φ : Bool → Prop} {c : Bool} (hsub : Sub F ((d, .bool c) :: F₀) := by repeat (first | exact trivial | refine ⟨rfl, ?_⟩)) (h : Φ c) : HQ (SQ N E d F₀ (fun c R' As' => R' = R ∧ As' = As ∧ Φ c)) N F E R As .normal := HQ_segp hsub h
end Go.Sx
