/- Texts that the proofs of the cards rest on, part 4. -/
import Derived.Test.YtibfopeljeadcaaGreatDoorGa6c1d515b
import Derived.Test.YtibfopeljeadcaaGreatDoorGabee5261b
import Derived.Test.YtibfopeljeadcaaGreatDoorG5827faacb
import GoSem.PinnedTables
/-! Rules: cells copied into a row of the call's own. Generic: no program is named. -/
namespace Go.Sx
open Go Go.RowKit
section
variable {P : Program} {ops : Array Oper} {Q : Exit → Act → World → Prop} {N : Nat} {F : List (Nat × Value)} {E : Env} {R : Frag} {As As' : List Ent} {l : List Oper} {x y : Operand} {v : Value} {ty T yT : TypeId} {pos : String} {af : Array Edge} {d : Nat}
theorem HL_copyTo {dT sT elem TT : TypeId} {g o1 b2 o2 n1 n2 c1 c2 n sz : Nat} {cs vs : List Value} {agg : Bool} (hd : Nat.blt d N = true) (hu : P.underlying dT = some (.slice elem)) (hte : Ty P elem agg sz) (hx : ev F x = some (.slice (some ⟨g, o1, none⟩) n1 c1)) (hy : ev F y = some (.slice (some ⟨b2, o2, none⟩) n2 c2))
  (hn : Nat.min n2 n1 = n) (hr : Rd As R b2 o2 (n * sz) vs) (ho : ones vs = true) (hs : Sel As (blk g cs TT) (blk g (spl cs o1 vs) TT) As') (hfit : o1 + vs.length ≤ cs.length)
  (k : HL P ops Q N ((d, .int .i64 (n : Int)) :: F) E R As' l) : HL P ops Q N F E R As (⟨some d, .call ⟨.builtin .copy, #[x, y], #[dT, sT]⟩, ty, pos, af, none⟩ :: l) :=
 HL_val hd (fun a w ha hst => by
  obtain ⟨w', h1, h2, h3, h4, h5, h6⟩ := storeCells_run (P := P) vs w g o1 0 cs TT (hst.own g _ hs.mem) (by omega) ho
  have hld := run_loadCells_rd (P := P) (w := w) (E := E) hr hst
  refine ⟨w', ?_, hst.turn hs h2 h3 h4 (by simpa using h5) h6⟩
  simp [execOp, resolve, invoke, builtin, ha.eval hx, ha.eval hy, Builtin.copy_, run_underlying' hu, Builtin.lenOf, Builtin.firstCells, hte.run_sizeOf, hn, hld, h1, goInt]) k
end
end Go.Sx

/-! Rules: bits of natural numbers that fit their type; reading a table that stays. Generic: no program is named. -/
namespace Go.Sx
open Go Go.RowKit

/-- What fits a type of integers, of natural numbers. -/
def lim (k : IntKind) : Nat := if k.signed then 2 ^ (k.bits - 1) else 2 ^ k.bits
theorem lim_le (k : IntKind) : lim k ≤ 2 ^ k.bits := by cases k <;> decide
theorem wrap_nat {k : IntKind} {a : Nat} (h : a < lim k) : k.wrap (a : Int) = (a : Int) := by
 cases k <;> simp [lim, IntKind.signed, IntKind.bits] at h <;> simp [IntKind.wrap, IntKind.signed, IntKind.bits] <;> omega
theorem ofInt_nat (n a : Nat) : BitVec.ofInt n (a : Int) = BitVec.ofNat n a := by
 apply BitVec.eq_of_toNat_eq
 simp
theorem and_lt_lim {k : IntKind} {a b : Nat} (h : a < lim k) : (a &&& b) < lim k := Nat.lt_of_le_of_lt Nat.and_le_left h
theorem or_lt_lim {k : IntKind} {a b : Nat} (h : a < lim k) (h2 : b < lim k) : (a ||| b) < lim k := by
 unfold lim at *
 split at h
 ·rename_i hs
  rw [if_pos hs] at h2 ⊢
  exact Nat.or_lt_two_pow h h2
 rename_i hs
 rw [if_neg hs] at h2 ⊢
 exact Nat.or_lt_two_pow h h2
theorem and_nat {k : IntKind} {a b : Nat} (h : a < lim k) (h2 : b < lim k) : Op.intBits .and k (a : Int) (b : Int) = pure (.int k ((a &&& b : Nat) : Int)) := by
 have e1 := Nat.lt_of_lt_of_le h (lim_le k)
 have e2 := Nat.lt_of_lt_of_le h2 (lim_le k)
 simp only [Op.intBits, ofInt_nat, BitVec.toNat_and, BitVec.toNat_ofNat, Nat.mod_eq_of_lt e1, Nat.mod_eq_of_lt e2]
 rw [wrap_nat (and_lt_lim h)]
theorem or_nat {k : IntKind} {a b : Nat} (h : a < lim k) (h2 : b < lim k) : Op.intBits .or k (a : Int) (b : Int) = pure (.int k ((a ||| b : Nat) : Int)) := by
 have e1 := Nat.lt_of_lt_of_le h (lim_le k)
 have e2 := Nat.lt_of_lt_of_le h2 (lim_le k)
 simp only [Op.intBits, ofInt_nat, BitVec.toNat_or, BitVec.toNat_ofNat, Nat.mod_eq_of_lt e1, Nat.mod_eq_of_lt e2]
 rw [wrap_nat (or_lt_lim h h2)]
section
variable {P : Program} {ops : Array Oper} {Q : Exit → Act → World → Prop} {N : Nat} {F : List (Nat × Value)} {E : Env} {R : Frag} {As : List Ent} {l : List Oper} {x y : Operand} {ty T yT : TypeId} {pos : String} {af : Array Edge} {d : Nat}
theorem HL_andN {k : IntKind} {a b : Nat} (hd : Nat.blt d N = true) (hx : ev F x = some (.int k (a : Int))) (hy : ev F y = some (.int k (b : Int))) (h1 : a < lim k) (h2 : b < lim k)
  (kk : HL P ops Q N ((d, .int k ((a &&& b : Nat) : Int)) :: F) E R As l) : HL P ops Q N F E R As (⟨some d, .binOp .and T x y yT, ty, pos, af, none⟩ :: l) :=
 HL_bin hd hx hy (fun w => by simp [eqGuard, binOp, and_nat h1 h2]) kk
theorem HL_orN {k : IntKind} {a b : Nat} (hd : Nat.blt d N = true) (hx : ev F x = some (.int k (a : Int))) (hy : ev F y = some (.int k (b : Int))) (h1 : a < lim k) (h2 : b < lim k)
  (kk : HL P ops Q N ((d, .int k ((a ||| b : Nat) : Int)) :: F) E R As l) : HL P ops Q N F E R As (⟨some d, .binOp .or T x y yT, ty, pos, af, none⟩ :: l) :=
 HL_bin hd hx hy (fun w => by simp [eqGuard, binOp, or_nat h1 h2]) kk
theorem HL_shlN {k kd' : IntKind} {a n c : Nat} (hd : Nat.blt d N = true) (hx : ev F x = some (.int k (a : Int))) (hy : ev F y = some (.int kd' (n : Int))) (hn : n ≤ k.bits) (hc : a * 2 ^ n = c) (h1 : c < lim k)
  (kk : HL P ops Q N ((d, .int k (c : Int)) :: F) E R As l) : HL P ops Q N F E R As (⟨some d, .binOp .shl T x y yT, ty, pos, af, none⟩ :: l) :=
 HL_shl hd hx hy (by omega) (by
  rw [show min (n : Int).toNat k.bits = n by simp; omega, ← wrap_nat h1, ← hc]
  congr 1) kk
theorem HL_shrN {k kd' : IntKind} {a n : Nat} (hd : Nat.blt d N = true) (hx : ev F x = some (.int k (a : Int))) (hy : ev F y = some (.int kd' (n : Int))) (hn : n ≤ k.bits)
  (kk : HL P ops Q N ((d, .int k ((a / 2 ^ n : Nat) : Int)) :: F) E R As l) : HL P ops Q N F E R As (⟨some d, .binOp .shr T x y yT, ty, pos, af, none⟩ :: l) :=
 HL_shr hd hx hy (by omega) (by
  rw [show min (n : Int).toNat k.bits = n by simp; omega, Int.fdiv_eq_ediv_of_nonneg _ (by exact_mod_cast Nat.zero_le _)]
  simp) kk
theorem HL_convN {src dst : Nat} {kd kd' : IntKind} {a : Nat} (hd : Nat.blt d N = true) (hs : ∃ D, P.underlying src = some D) (hT : P.underlying dst = some (.int kd)) (hx : ev F x = some (.int kd' (a : Int))) (h : a < lim kd)
  (k : HL P ops Q N ((d, .int kd (a : Int)) :: F) E R As l) : HL P ops Q N F E R As (⟨some d, .convert src dst x, ty, pos, af, none⟩ :: l) :=
 HL_conv hd hs hT hx (wrap_nat h) k
theorem HL_addS {a b : ByteArray} (hd : Nat.blt d N = true) (hx : ev F x = some (.string a)) (hy : ev F y = some (.string b)) (h : a.size + b.size ≤ 9223372036854775807)
  (k : HL P ops Q N ((d, .string (a ++ b)) :: F) E R As l) : HL P ops Q N F E R As (⟨some d, .binOp .add T x y yT, ty, pos, af, none⟩ :: l) :=
 HL_bin hd hx hy (fun w => by
  have hn : ¬ ((a.size : Int) + (b.size : Int)) > IntKind.i64.max := by
   have : IntKind.i64.max = 9223372036854775807 := rfl
   omega
  simp only [eqGuard, binOp, Op.stringOp, Int.natCast_add, if_neg hn]
  rfl) k
theorem HL_sliceS_hi {s : ByteArray} {hi : Nat} {kd : IntKind} {c : Int} (hd : Nat.blt d N = true) (hT : P.underlying T = some .string) (hx : ev F x = some (.string s)) (hy : ev F y = some (.int kd c)) (hc : c = (hi : Int)) (hhi : hi ≤ s.size)
  (k : HL P ops Q N ((d, .string (s.extract 0 hi)) :: F) E R As l) : HL P ops Q N F E R As (⟨some d, .slice T x none (some y) none, ty, pos, af, none⟩ :: l) := by
 subst hc
 exact HL_same hd (fun q w ha _ => by
  simp [execOp, ha.eval hx, ha.eval hy, Instr.sliceAt, Instr.slice, run_underlying' hT, Instr.sliceBounds, Instr.sliceBound, asIntOf, hhi]) k
theorem HL_runeStr {src dst : Nat} {kd kd' : IntKind} {c : Int} (hd : Nat.blt d N = true) (hs : P.underlying src = some (.int kd)) (hT : P.underlying dst = some .string) (hx : ev F x = some (.int kd' c))
  (k : HL P ops Q N ((d, .string (Utf8.encode c)) :: F) E R As l) : HL P ops Q N F E R As (⟨some d, .convert src dst x, ty, pos, af, none⟩ :: l) :=
 HL_same hd (fun a' w ha _ => by
  simp [execOp, convert, run_underlying' hs, run_underlying' hT, ha.eval hx, Conv.intToString]) k
theorem HL_indexSk {s : ByteArray} {i : Nat} {c : UInt8} {kd : IntKind} {ii : Int} (hd : Nat.blt d N = true) (hT : P.underlying T = some .string) (hx : ev F x = some (.string s)) (hy : ev F y = some (.int kd ii)) (hi : ii = (i : Int)) (hc : s[i]? = some c)
  (k : HL P ops Q N ((d, .int .u8 (c.toNat : Int)) :: F) E R As l) : HL P ops Q N F E R As (⟨some d, .index T x y, ty, pos, af, none⟩ :: l) := by
 subst hi
 exact HL_same hd (fun a w ha hst => by
  simp [execOp, Instr.index, asIntOf, ha.eval hx, ha.eval hy, run_underlying' hT, hc]) k
end
end Go.Sx

/-! Rules: natural numbers of any type of integers; a store far out in a row; steps that may be taken ahead. Generic: no program is named. -/
namespace Go.Sx
open Go Go.RowKit
theorem spl_off (P : List Value) : ∀ (cs vs : List Value) (k : Nat), spl (P ++ cs) (P.length + k) vs = P ++ spl cs k vs := by
 induction P with
 | nil => intro cs vs k; simp
 | cons c t ih =>
  intro cs vs k
  rw [List.cons_append, List.length_cons, show t.length + 1 + k = (t.length + k) + 1 by omega, spl, ih, List.cons_append]
section
variable {P : Program} {ops : Array Oper} {Q : Exit → Act → World → Prop} {N : Nat} {F : List (Nat × Value)} {E : Env} {R : Frag} {As As' : List Ent} {l : List Oper} {x y : Operand} {v : Value} {ty T yT : TypeId} {pos : String} {af : Array Edge} {d : Nat}
theorem HL_addK {k : IntKind} {a b c : Nat} (hd : Nat.blt d N = true) (hx : ev F x = some (.int k (a : Int))) (hy : ev F y = some (.int k (b : Int))) (h : a + b = c) (hc : c < lim k)
  (kk : HL P ops Q N ((d, .int k (c : Int)) :: F) E R As l) : HL P ops Q N F E R As (⟨some d, .binOp .add T x y yT, ty, pos, af, none⟩ :: l) :=
 HL_bin hd hx hy (fun w => by
  have e : k.wrap ((a : Int) + (b : Int)) = (c : Int) := by rw [← h, ← Int.natCast_add, wrap_nat (by rw [h]; exact hc)]
  simp [eqGuard, binOp, Op.intArith, e]) kk
theorem HL_subK {k : IntKind} {a b c : Nat} (hd : Nat.blt d N = true) (hx : ev F x = some (.int k (a : Int))) (hy : ev F y = some (.int k (b : Int))) (h : b + c = a) (hc : c < lim k)
  (kk : HL P ops Q N ((d, .int k (c : Int)) :: F) E R As l) : HL P ops Q N F E R As (⟨some d, .binOp .sub T x y yT, ty, pos, af, none⟩ :: l) :=
 HL_bin hd hx hy (fun w => by
  have e : k.wrap ((a : Int) - (b : Int)) = (c : Int) := by rw [show (a : Int) - (b : Int) = (c : Int) by omega, wrap_nat hc]
  simp [eqGuard, binOp, Op.intArith, e]) kk
theorem HL_mulK {k : IntKind} {a b c : Nat} (hd : Nat.blt d N = true) (hx : ev F x = some (.int k (a : Int))) (hy : ev F y = some (.int k (b : Int))) (h : a * b = c) (hc : c < lim k)
  (kk : HL P ops Q N ((d, .int k (c : Int)) :: F) E R As l) : HL P ops Q N F E R As (⟨some d, .binOp .mul T x y yT, ty, pos, af, none⟩ :: l) :=
 HL_bin hd hx hy (fun w => by
  have e : k.wrap ((a : Int) * (b : Int)) = (c : Int) := by rw [← Int.natCast_mul, h, wrap_nat hc]
  simp [eqGuard, binOp, Op.intArith, e]) kk
theorem HL_quoK {k : IntKind} {a b : Nat} (hd : Nat.blt d N = true) (hx : ev F x = some (.int k (a : Int))) (hy : ev F y = some (.int k (b : Int))) (hb : 0 < b) (hc : a < lim k)
  (kk : HL P ops Q N ((d, .int k ((a / b : Nat) : Int)) :: F) E R As l) : HL P ops Q N F E R As (⟨some d, .binOp .quo T x y yT, ty, pos, af, none⟩ :: l) :=
 HL_bin hd hx hy (fun w => by
  have h0 : ¬ ((b : Int) = 0) := by omega
  have e : k.wrap ((a : Int).tdiv (b : Int)) = ((a / b : Nat) : Int) := by rw [← Int.ofNat_tdiv, wrap_nat (Nat.lt_of_le_of_lt (Nat.div_le_self _ _) hc)]
  have hb0 : ¬ b = 0 := by omega
  simp only [eqGuard, binOp, Op.intDiv, if_neg h0, e]
  simp) kk
theorem HL_remK {k : IntKind} {a b : Nat} (hd : Nat.blt d N = true) (hx : ev F x = some (.int k (a : Int))) (hy : ev F y = some (.int k (b : Int))) (hb : 0 < b)
  (kk : HL P ops Q N ((d, .int k ((a % b : Nat) : Int)) :: F) E R As l) : HL P ops Q N F E R As (⟨some d, .binOp .rem T x y yT, ty, pos, af, none⟩ :: l) :=
 HL_bin hd hx hy (fun w => by
  have h0 : ¬ ((b : Int) = 0) := by omega
  simp [eqGuard, binOp, Op.intDiv, h0]
  rw [Int.tmod_eq_emod_of_nonneg (by omega), if_neg (by omega)]) kk
theorem HL_negK {k : IntKind} {a z : Int} (hd : Nat.blt d N = true) (hx : ev F x = some (.int k a)) (hz : k.wrap (0 - a) = z)
  (kk : HL P ops Q N ((d, .int k z) :: F) E R As l) : HL P ops Q N F E R As (⟨some d, .unOp .neg T x, ty, pos, af, none⟩ :: l) :=
 HL_neg hd hx (by rw [hz]; exact kk)
/-- A store of one cell. -/
theorem HL_storeAt {b off k : Nat} {P0 cs cs' : List Value} {TT : TypeId} {v : Value} (hT : Ty P T false 1) (hx : ev F x = some (.pointer (some ⟨b, off, none⟩))) (hoff : off = P0.length + k) (hy : ev F y = some v) (hv : v.cells = #[v]) (ho : ones [v] = true)
  (hs : Sel As (blk b (P0 ++ cs) TT) (blk b (P0 ++ cs') TT) As') (hspl : spl cs k [v] = cs') (hl : k < cs.length)
  (kk : HL P ops Q N F E R As' l) : HL P ops Q N F E R As (⟨none, .store T x y, ty, pos, af, none⟩ :: l) := by
 subst hoff hspl
 exact HL_store (vs := [v]) hT hx hy (by rw [hv]) ho (by rw [spl_off]; exact hs) (by simp; omega) kk
/-- A part of an array, from its beginning on. -/
theorem HL_sliceArr_hi {n te sz hi : Nat} {agg : Bool} {b : Nat} {kd : IntKind} {c : Int} (hd : Nat.blt d N = true) (hT : P.underlying T = some (.array n te)) (he : Ty P te agg sz) (hn : Nat.blt 0 n = true) (hx : ev F x = some (.pointer (some ⟨b, 0, none⟩))) (hy : ev F y = some (.int kd c)) (hc : c = (hi : Int)) (hh : hi ≤ n)
  (k : HL P ops Q N ((d, .slice (some ⟨b, 0, none⟩) hi n) :: F) E R As l) : HL P ops Q N F E R As (⟨some d, .slice T x none (some y) none, ty, pos, af, none⟩ :: l) := by
 subst hc
 exact HL_same hd (fun q w ha _ => by
  have hn' : ¬ n = 0 := by simp at hn; omega
  simp [execOp, ha.eval hx, ha.eval hy, Instr.sliceAt, Instr.sureAddr, asAddr, run_underlying' hT, Instr.sliceBounds, Instr.sliceBound, asIntOf, he.run_sizeOf, hn', hh, Addr.add_mk]) k
/-- A part of an array. -/
theorem HL_sliceArr_lohi {n te sz lo hi : Nat} {agg : Bool} {b : Nat} {kd kd' : IntKind} {c c' : Int} {z : Operand} (hd : Nat.blt d N = true) (hT : P.underlying T = some (.array n te)) (he : Ty P te agg sz) (hx : ev F x = some (.pointer (some ⟨b, 0, none⟩))) (hy : ev F y = some (.int kd c)) (hz : ev F z = some (.int kd' c')) (hc : c = (lo : Int)) (hc' : c' = (hi : Int)) (hl : lo ≤ hi) (hh : hi ≤ n) (hln : lo < n)
  (k : HL P ops Q N ((d, .slice (some ⟨b, 0 + lo * sz, none⟩) (hi - lo) (n - lo)) :: F) E R As l) : HL P ops Q N F E R As (⟨some d, .slice T x (some y) (some z) none, ty, pos, af, none⟩ :: l) := by
 subst hc hc'
 exact HL_same hd (fun q w ha _ => by
  have hn' : ¬ n = lo := by omega
  simp [execOp, ha.eval hx, ha.eval hy, ha.eval hz, Instr.sliceAt, Instr.sureAddr, asAddr, run_underlying' hT, Instr.sliceBounds, Instr.sliceBound, asIntOf, he.run_sizeOf, hn', hh, hl, Addr.add_mk]) k
/-- Cells behind others where there is room. -/
theorem HL_append_room {t te TT g n m cap b2 o2 c : Nat} {s : Operand} {cs ys : List Value} {agg : Bool} (hd : Nat.blt d N = true) (hT : P.underlying t = some (.slice te)) (hte : Ty P te agg 1)
  (hsv : ev F s = some (.slice (some ⟨g, 0, none⟩) n cap)) (hx : ev F x = some (.slice (some ⟨b2, o2, none⟩) m c)) (hr : Rd As R b2 o2 m ys) (ho : ones ys = true) (hm : ys.length = m)
  (hs : Sel As (blk g cs TT) (blk g (spl cs n ys) TT) As') (hroom : n + m ≤ cap) (hfit : n + m ≤ cs.length)
  (k : HL P ops Q N ((d, .slice (some ⟨g, 0, none⟩) (n + m) cap) :: F) E R As' l) :
  HL P ops Q N F E R As (⟨some d, .call ⟨.builtin .append, #[s, x], #[t, t]⟩, ty, pos, af, none⟩ :: l) :=
 HL_val hd (fun a w ha hst => by
  obtain ⟨w', h1, h2, h3, h4, h5, h6⟩ := storeCells_run (P := P) ys w g n 0 cs TT (hst.own g _ hs.mem) (by omega) ho
  have hld := run_loadCells_rd (P := P) (w := w) (E := E) hr hst
  refine ⟨w', ?_, hst.turn hs h2 h3 h4 (by simpa using h5) h6⟩
  simp [execOp, resolve, invoke, builtin, ha.eval hsv, ha.eval hx, Builtin.append_, run_underlying' hT, Builtin.lenOf, Builtin.firstCells, hte.run_sizeOf, hroom, hld, Addr.add_mk, h1]) k
theorem PreR.subN {l : List Oper} {j d c : Nat} {x y : Operand} {a b : Int} {T yT rest ty pos af} (ho : l[j]? = some ⟨some d, .binOp .sub T x y yT, ty, pos, af, none⟩) (hd : Nat.blt d N = true) (hx : ev F x = some (.int .i64 a)) (hy : ev F y = some (.int .i64 b))
  (h : a - b = (c : Int)) (hc : c ≤ 1000000000) (hk : PreR P l N ((d, .int .i64 (c : Int)) :: F) rest) : PreR P l N F ((j, d, .int .i64 (c : Int)) :: rest) :=
 .cons _ _ _ _ _ _ ho rfl rfl hd (fun q w ha => by simp [execOp, eqGuard, binOp, Op.intArith, ha.eval hx, ha.eval hy, h, IntWalk.i64_in (c : Int) ⟨by omega, by omega⟩]) hk
theorem PreR.indexS {l : List Oper} {j d i : Nat} {x y : Operand} {s : ByteArray} {c : UInt8} {kd : IntKind} {T rest ty pos af} (ho : l[j]? = some ⟨some d, .index T x y, ty, pos, af, none⟩) (hd : Nat.blt d N = true) (hT : P.underlying T = some .string) (hx : ev F x = some (.string s)) (hy : ev F y = some (.int kd (i : Int)))
  (hc : s[i]? = some c) (hk : PreR P l N ((d, .int .u8 (c.toNat : Int)) :: F) rest) : PreR P l N F ((j, d, .int .u8 (c.toNat : Int)) :: rest) :=
 .cons _ _ _ _ _ _ ho rfl rfl hd (fun a w ha => by
  simp [execOp, Instr.index, asIntOf, ha.eval hx, ha.eval hy, run_underlying' hT, hc]) hk
end
end Go.Sx

/-! Rules: whole numbers of either sign, wrapped round as the machine does it; the larger and the smaller of two. Generic: no program is named. -/
namespace Go.Sx
open Go Go.RowKit
def zand (k : IntKind) (x y : Int) : Int := k.wrap ((BitVec.ofInt k.bits x &&& BitVec.ofInt k.bits y).toNat)
def zor (k : IntKind) (x y : Int) : Int := k.wrap ((BitVec.ofInt k.bits x ||| BitVec.ofInt k.bits y).toNat)
def zshr (k : IntKind) (a n : Int) : Int := a.fdiv (2 ^ (min n.toNat k.bits))
def zshl (k : IntKind) (a n : Int) : Int := k.wrap (a * 2 ^ (min n.toNat k.bits))
/-- What fits 64 bits. -/
def U64 (z : Int) : Prop := 0 ≤ z ∧ z < 18446744073709551616
theorem wrapU (z : Int) : U64 (IntKind.u64.wrap z) := by
 unfold U64
 simp [IntKind.wrap, IntKind.signed, IntKind.bits]
 omega
theorem wrapI_id {z : Int} (h : -9223372036854775808 ≤ z ∧ z < 9223372036854775808) : IntKind.i64.wrap z = z := by
 simp [IntKind.wrap, IntKind.signed, IntKind.bits]
 omega
theorem U64.nat {z : Int} (h : U64 z) : ∃ n : Nat, z = (n : Int) ∧ n < 18446744073709551616 := ⟨z.toNat, by have := h.1; omega, by have := h.1; have := h.2; omega⟩
theorem shrU {a : Int} (h : U64 a) (n : Int) : U64 (zshr .u64 a n) := by
 obtain ⟨m, rfl, hm⟩ := h.nat
 unfold zshr U64
 rw [Int.fdiv_eq_ediv_of_nonneg _ (Int.le_of_lt (Int.pow_pos (by omega)))]
 refine ⟨Int.ediv_nonneg (by omega) (Int.le_of_lt (Int.pow_pos (by omega))), ?_⟩
 have : (m : Int) / 2 ^ (min n.toNat IntKind.u64.bits) ≤ m := Int.ediv_le_self _ (by omega)
 omega
theorem and63 (x : Int) : 0 ≤ zand .i64 x 63 ∧ zand .i64 x 63 ≤ 63 := by
 have h : (BitVec.ofInt IntKind.i64.bits x &&& BitVec.ofInt IntKind.i64.bits 63).toNat ≤ 63 := by
  rw [BitVec.toNat_and]
  exact Nat.and_le_right
 have e : zand .i64 x 63 = ((BitVec.ofInt IntKind.i64.bits x &&& BitVec.ofInt IntKind.i64.bits 63).toNat : Int) := wrapI_id ⟨by omega, by omega⟩
 omega
theorem and1 (x : Int) : 0 ≤ zand .i64 x 1 ∧ zand .i64 x 1 ≤ 1 := by
 have h : (BitVec.ofInt IntKind.i64.bits x &&& BitVec.ofInt IntKind.i64.bits 1).toNat ≤ 1 := by
  rw [BitVec.toNat_and]
  exact Nat.and_le_right
 have e : zand .i64 x 1 = ((BitVec.ofInt IntKind.i64.bits x &&& BitVec.ofInt IntKind.i64.bits 1).toNat : Int) := wrapI_id ⟨by omega, by omega⟩
 omega
section
variable {P : Program} {ops : Array Oper} {Q : Exit → Act → World → Prop} {N : Nat} {F : List (Nat × Value)} {E : Env} {R : Frag} {As As' : List Ent} {l : List Oper} {x y : Operand} {v : Value} {ty T yT : TypeId} {pos : String} {af : Array Edge} {d : Nat}
theorem HL_addZ {k : IntKind} {a b : Int} (hd : Nat.blt d N = true) (hx : ev F x = some (.int k a)) (hy : ev F y = some (.int k b))
  (kk : HL P ops Q N ((d, .int k (k.wrap (a + b))) :: F) E R As l) : HL P ops Q N F E R As (⟨some d, .binOp .add T x y yT, ty, pos, af, none⟩ :: l) :=
 HL_bin hd hx hy (fun w => by simp [eqGuard, binOp, Op.intArith]) kk
theorem HL_subZ {k : IntKind} {a b : Int} (hd : Nat.blt d N = true) (hx : ev F x = some (.int k a)) (hy : ev F y = some (.int k b))
  (kk : HL P ops Q N ((d, .int k (k.wrap (a - b))) :: F) E R As l) : HL P ops Q N F E R As (⟨some d, .binOp .sub T x y yT, ty, pos, af, none⟩ :: l) :=
 HL_bin hd hx hy (fun w => by simp [eqGuard, binOp, Op.intArith]) kk
theorem HL_mulZ {k : IntKind} {a b : Int} (hd : Nat.blt d N = true) (hx : ev F x = some (.int k a)) (hy : ev F y = some (.int k b))
  (kk : HL P ops Q N ((d, .int k (k.wrap (a * b))) :: F) E R As l) : HL P ops Q N F E R As (⟨some d, .binOp .mul T x y yT, ty, pos, af, none⟩ :: l) :=
 HL_bin hd hx hy (fun w => by simp [eqGuard, binOp, Op.intArith]) kk
theorem HL_mulI {a b : Int} (hd : Nat.blt d N = true) (hx : ev F x = some (.int .i64 a)) (hy : ev F y = some (.int .i64 b)) (h : -9223372036854775808 ≤ a * b ∧ a * b < 9223372036854775808)
  (kk : HL P ops Q N ((d, .int .i64 (a * b)) :: F) E R As l) : HL P ops Q N F E R As (⟨some d, .binOp .mul T x y yT, ty, pos, af, none⟩ :: l) :=
 HL_mulZ hd hx hy (by rw [wrapI_id h]; exact kk)
theorem HL_negI {a : Int} (hd : Nat.blt d N = true) (hx : ev F x = some (.int .i64 a)) (h : -9223372036854775808 < a ∧ a < 9223372036854775808)
  (kk : HL P ops Q N ((d, .int .i64 (-a)) :: F) E R As l) : HL P ops Q N F E R As (⟨some d, .unOp .neg T x, ty, pos, af, none⟩ :: l) :=
 HL_neg hd hx (by rw [wrapI_id ⟨by omega, by omega⟩, Int.zero_sub]; exact kk)
theorem HL_andZ {k : IntKind} {a b : Int} (hd : Nat.blt d N = true) (hx : ev F x = some (.int k a)) (hy : ev F y = some (.int k b))
  (kk : HL P ops Q N ((d, .int k (zand k a b)) :: F) E R As l) : HL P ops Q N F E R As (⟨some d, .binOp .and T x y yT, ty, pos, af, none⟩ :: l) :=
 HL_bin hd hx hy (fun w => by simp [eqGuard, binOp, Op.intBits, zand]) kk
theorem HL_orZ {k : IntKind} {a b : Int} (hd : Nat.blt d N = true) (hx : ev F x = some (.int k a)) (hy : ev F y = some (.int k b))
  (kk : HL P ops Q N ((d, .int k (zor k a b)) :: F) E R As l) : HL P ops Q N F E R As (⟨some d, .binOp .or T x y yT, ty, pos, af, none⟩ :: l) :=
 HL_bin hd hx hy (fun w => by simp [eqGuard, binOp, Op.intBits, zor]) kk
theorem HL_shrZ {k k' : IntKind} {a n : Int} (hd : Nat.blt d N = true) (hx : ev F x = some (.int k a)) (hy : ev F y = some (.int k' n)) (hn : 0 ≤ n)
  (kk : HL P ops Q N ((d, .int k (zshr k a n)) :: F) E R As l) : HL P ops Q N F E R As (⟨some d, .binOp .shr T x y yT, ty, pos, af, none⟩ :: l) :=
 HL_shr hd hx hy hn rfl kk
theorem HL_shlZ {k k' : IntKind} {a n : Int} (hd : Nat.blt d N = true) (hx : ev F x = some (.int k a)) (hy : ev F y = some (.int k' n)) (hn : 0 ≤ n)
  (kk : HL P ops Q N ((d, .int k (zshl k a n)) :: F) E R As l) : HL P ops Q N F E R As (⟨some d, .binOp .shl T x y yT, ty, pos, af, none⟩ :: l) :=
 HL_shl hd hx hy hn rfl kk
theorem HL_quoZ {k : IntKind} {a b : Int} (hd : Nat.blt d N = true) (hx : ev F x = some (.int k a)) (hy : ev F y = some (.int k b)) (hb : b ≠ 0)
  (kk : HL P ops Q N ((d, .int k (k.wrap (a.tdiv b))) :: F) E R As l) : HL P ops Q N F E R As (⟨some d, .binOp .quo T x y yT, ty, pos, af, none⟩ :: l) :=
 HL_bin hd hx hy (fun w => by simp [eqGuard, binOp, Op.intDiv, hb]) kk
theorem HL_max {k k' : IntKind} {a b z : Int} {ats : Array TypeId} (hd : Nat.blt d N = true) (hx : ev F x = some (.int k a)) (hy : ev F y = some (.int k' b))
  (hz : (if b > a then b else a) = z) (kk : HL P ops Q N ((d, .int k z) :: F) E R As l) : HL P ops Q N F E R As (⟨some d, .call ⟨.builtin .max, #[x, y], ats⟩, ty, pos, af, none⟩ :: l) :=
 HL_same hd (fun q w ha _ => by simp [execOp, resolve, invoke, builtin, Builtin.max_, Builtin.max2, ha.eval hx, ha.eval hy, ← hz]) kk
theorem HL_min {k k' : IntKind} {a b z : Int} {ats : Array TypeId} (hd : Nat.blt d N = true) (hx : ev F x = some (.int k a)) (hy : ev F y = some (.int k' b))
  (hz : (if b < a then b else a) = z) (kk : HL P ops Q N ((d, .int k z) :: F) E R As l) : HL P ops Q N F E R As (⟨some d, .call ⟨.builtin .min, #[x, y], ats⟩, ty, pos, af, none⟩ :: l) :=
 HL_same hd (fun q w ha _ => by simp [execOp, resolve, invoke, builtin, Builtin.min_, Builtin.min2, ha.eval hx, ha.eval hy, ← hz]) kk
end
end Go.Sx

/-! A row of bytes that a call owns, of whatever type it was laid as; bytes behind it, with room or without. Generic: no program is named. -/
namespace Go.Sx
open Go Go.RowKit
/-- A row of the call's own, of some type, that begins with some bytes; it lies in the block b0 of n0 cells, or that block is kept beside it. -/
def Bufd (b0 n0 : Nat) (v : Value) (bs : List UInt8) (e k : Ent) : Prop :=
 ∃ g cap cur TT, v = .slice (some ⟨g, 0, none⟩) bs.length cap ∧ e = blk g cur TT ∧ bs.length ≤ cap ∧ cap ≤ maxLen ∧ cur.length = cap ∧ cur.take bs.length = bcells bs ∧
  ((g = b0 ∧ cap = n0 ∧ k = .emp) ∨ ∃ old T0, k = blk b0 old T0 ∧ old.length = n0)
/-- Two entries, in their places. -/
inductive Pl2 : List Ent → Ent → Ent → (Ent → Ent → List Ent) → Prop
 | here {e k l C} : Pl l k C → Pl2 (e :: l) e k (fun x y => x :: C y)
 | there {z e k l C} : Pl2 l e k C → Pl2 (z :: l) e k (fun x y => z :: C x y)
theorem Pl2.split {l e k C} (h : Pl2 l e k C) : ∃ p q r, l = p ++ e :: (q ++ k :: r) ∧ ∀ x y, C x y = p ++ x :: (q ++ y :: r) := by
 induction h with
 | here h =>
  obtain ⟨q, r, rfl, h2⟩ := h.split
  exact ⟨[], q, r, rfl, fun x y => by simp [h2]⟩
 | there _ ih =>
  obtain ⟨p, q, r, rfl, h⟩ := ih
  exact ⟨_ :: p, q, r, rfl, fun x y => by simp [h x y]⟩
theorem onesB' (s : List UInt8) : ones (bcells s) = true := by
 unfold ones bcells
 rw [List.all_eq_true]
 intro x hx
 obtain ⟨c, _, rfl⟩ := List.mem_map.1 hx
 rfl
theorem spl_take {cs vs : List Value} : ∀ {n : Nat}, n + vs.length ≤ cs.length → (spl cs n vs).length = cs.length ∧ (spl cs n vs).take (n + vs.length) = cs.take n ++ vs := by
 intro n
 induction n generalizing cs with
 | zero =>
  intro h
  obtain ⟨A, B, rfl, hA⟩ : ∃ A B, cs = A ++ B ∧ A.length = vs.length := ⟨cs.take vs.length, cs.drop vs.length, (List.take_append_drop _ _).symm, by simp; omega⟩
  rw [spl_head _ _ _ hA.symm]
  refine ⟨by simp [hA], ?_⟩
  rw [Nat.zero_add, List.take_left]
  rfl
 | succ n ih =>
  intro h
  match cs, h with
  | [], h => simp at h
  | c :: t, h =>
   simp only [List.length_cons] at h
   obtain ⟨h1, h2⟩ := ih (cs := t) (by omega)
   simp only [spl, List.length_cons]
   refine ⟨by omega, ?_⟩
   rw [show n + 1 + vs.length = (n + vs.length) + 1 by omega, List.take_succ_cons, h2, List.take_succ_cons, List.cons_append]
section
variable {P : Program} {ops : Array Oper} {Q : Exit → Act → World → Prop} {N : Nat} {F : List (Nat × Value)} {E : Env} {R : Frag} {As As' : List Ent} {l : List Oper} {x y : Operand} {v : Value} {ty T yT : TypeId} {pos : String} {af : Array Edge} {d : Nat}
theorem HL_appendB {t te b2 o2 c b0 n0 : Nat} {s : Operand} {bs ys : List UInt8} {e k0 : Ent} {C : Ent → Ent → List Ent} (hd : Nat.blt d N = true) (hT : P.underlying t = some (.slice te)) (hte : Ty P te false 1)
  (hz : TyZ P te (.int .u8 0)) (hby : TyB P te 1) (hsv : ev F s = some v) (hown : Bufd b0 n0 v bs e k0) (hpl : Pl2 As e k0 C)
  (hx : ev F x = some (.slice (some ⟨b2, o2, none⟩) ys.length c)) (hr : Rd As R b2 o2 ys.length (bcells ys)) (hb1 : bs.length + ys.length ≤ 1000000000)
  (k : ∀ v' e' k', Bufd b0 n0 v' (bs ++ ys) e' k' → HL P ops Q N ((d, v') :: F) E R (C e' k') l) :
  HL P ops Q N F E R As (⟨some d, .call ⟨.builtin .append, #[s, x], #[t, t]⟩, ty, pos, af, none⟩ :: l) := by
 obtain ⟨g, cap, cur, TT, rfl, rfl, h1, h2, h3, h4, hk⟩ := hown
 have hyl : (bcells ys).length = ys.length := by simp [bcells]
 have hb : (bs ++ ys).length = bs.length + ys.length := List.length_append
 obtain ⟨p, q, r, rfl, hC⟩ := hpl.split
 by_cases hroom : bs.length + ys.length ≤ cap
 ·have hfit : bs.length + (bcells ys).length ≤ cur.length := by rw [hyl]; omega
  obtain ⟨e1, e2⟩ := spl_take hfit
  refine HL_append_room hd hT hte hsv hx hr (onesB' ys) hyl (Sel.mid _ _ _ _) hroom (by omega) ?_
  rw [← hb, ← hC]
  refine k _ _ _ ⟨g, cap, _, TT, rfl, rfl, by omega, h2, by omega, ?_, hk⟩
  rw [hb, ← hyl, e2, h4]
  simp [bcells]
 intro a w ha hs
 obtain ⟨i, hi, hisz⟩ := hte.info
 obtain ⟨i', hi', hiz⟩ := hz
 obtain ⟨i'', hi'', hib⟩ := hby
 rw [hi] at hi' hi''
 injection hi' with hi'
 injection hi'' with hi''
 subst hi' hi''
 have hg0 := hs.own g _ (by simp : blk g cur TT ∈ p ++ blk g cur TT :: (q ++ k0 :: r))
 have hml : (1000000000 : Nat) ≤ maxLen := maxLen_big _ (by omega)
 have hxs : (bcells bs).length = bs.length := by simp [bcells]
 have holds : ∀ j u, (bcells bs)[j]? = some u → w.cell? ((⟨g, 0, none⟩ : Addr).add j) = some u := fun j u hu => by
  rw [Addr.add_mk]
  simp only [World.cell?, hg0, Nat.zero_add]
  rw [← h4] at hu
  have := List.getElem?_take (l := cur) (i := bs.length) (j := j)
  rw [this] at hu
  split at hu
  ·simpa using hu
  cases hu
 have hr3 := run_append_grow (P := P) w t ty te i (.int .u8 0) hT hi hiz ⟨g, 0, none⟩ bs.length cap (bcells bs) (by rw [hxs, hisz, Nat.mul_one]) holds ⟨b2, o2, none⟩ ys.length c (bcells ys) (by rw [hyl, hisz, Nat.mul_one]) (fun j u hu => by rw [Addr.add_mk]; exact hr.cells hs j u hu) (by omega) (by omega) (growslice_fits (by omega) (by rw [hib]; omega))
 have hge := grownCap_ge w (bs.length + ys.length) cap te
 have hcm := grownCap_le_maxLen w (bs.length + ys.length) cap te (by omega)
 obtain ⟨row, hrow⟩ : ∃ row : Array Value, row = (bcells bs).toArray ++ (bcells ys).toArray ++ Builtin.zeroCells (Value.int .u8 0).cells (grownCap w (bs.length + ys.length) cap te - (bs.length + ys.length)) := ⟨_, rfl⟩
 have hrl : row.toList.length = grownCap w (bs.length + ys.length) cap te := by
  rw [hrow]
  simp only [Array.toList_append, List.length_append, Array.length_toList, size_zeroCells, hxs, hyl]
  simp [Value.cells]
  omega
 have hrt : row.toList.take (bs ++ ys).length = bcells (bs ++ ys) := by
  rw [hrow]
  simp only [Array.toList_append]
  rw [hb, List.take_append_of_le_length (by simp [bcells])]
  rw [List.take_of_length_le (by simp [bcells])]
  simp [bcells]
 rw [← hrow] at hr3
 obtain ⟨k', hk', hst⟩ : ∃ k', ((w.heap.size = b0 ∧ grownCap w (bs.length + ys.length) cap te = n0 ∧ k' = .emp) ∨ ∃ old T0, k' = blk b0 old T0 ∧ old.length = n0) ∧ St E (w.drew.alloc (.cells row te)) R (p ++ blk w.heap.size row.toList te :: (q ++ k' :: r)) := by
  rcases hk with ⟨rfl, rfl, rfl⟩ | ⟨old, T0, rfl, ho⟩
  ·refine ⟨blk g cur TT, .inr ⟨cur, TT, rfl, h3⟩, ?_⟩
   have hs2 : St E w R ((p ++ blk g cur TT :: q) ++ .emp :: r) := by simpa using hs
   have := hs2.swap (e' := blk w.heap.size row.toList te) (w' := w.drew.alloc (.cells row te)) rfl rfl rfl (fun k hk _ => heap_alloc_old w.drew _ hk) (fun b o h => by
    injection h with h5 h6
    subst h5 h6
    exact ⟨heap_alloc_new w.drew _, .inr (Nat.le_refl _)⟩)
   refine this.perm ?_
   rw [List.append_assoc]
   refine List.Perm.append_left p ?_
   refine (List.Perm.cons _ List.perm_middle).trans ((List.Perm.swap _ _ _).trans (.cons _ ?_))
   exact List.perm_middle.symm
  refine ⟨blk b0 old T0, .inr ⟨old, T0, rfl, ho⟩, ?_⟩
  exact hs.swap rfl rfl rfl (fun k hk _ => heap_alloc_old w.drew _ hk) (fun b o h => by
   injection h with h5 h6
   subst h5 h6
   exact ⟨heap_alloc_new w.drew _, .inr (Nat.le_refl _)⟩)
 rw [← hC] at hst
 refine wp_value rfl (w' := w.drew.alloc (.cells row te)) ?_ (k _ _ _ ⟨w.heap.size, grownCap w (bs.length + ys.length) cap te, _, te, by rw [hb], rfl, by omega, hcm, hrl, hrt, hk'⟩ _ _ (ha.put hd) hst)
 show Sem.run P (do let d ← resolve a.eval _ ty; invoke d.target d.args) w = _
 simp only [resolve, Sem.run_bind, Sem.run_pure, Result.andThen_ok, invoke, builtin]
 have e1 : (#[s, x].map a.eval) = #[.slice (some ⟨g, 0, none⟩) bs.length cap, .slice (some ⟨b2, o2, none⟩) ys.length c] := by simp [ha.eval hsv, ha.eval hx]
 rw [e1, hr3]
 rfl
theorem HL_bytes3 {te : TypeId} {x1 x2 x3 : Operand} {a1 a2 a3 : Int} (hd : Nat.blt d N = true) (hT : P.underlying T = some (.slice te)) (hte : Ty P te false 1) (hz : TyZ P te (.int .u8 0))
  (h1 : ev F x1 = some (.int .u8 a1)) (h2 : ev F x2 = some (.int .u8 a2)) (h3 : ev F x3 = some (.int .u8 a3))
  (k : ∀ b, HL P ops Q N ((d, .slice (some ⟨b, 0, none⟩) 3 3) :: F) E R (blk b [.int .u8 a1, .int .u8 a2, .int .u8 a3] te :: As) l) : HL P ops Q N F E R As (⟨some d, .buildSlice T 3 #[(0, x1), (1, x2), (2, x3)], ty, pos, af, none⟩ :: l) :=
 HL_buildSlice (ps := [(0, x1), (1, x2), (2, x3)]) (pvs := [.int .u8 a1, .int .u8 a2, .int .u8 a3]) (qs := [[.int .u8 a1], [.int .u8 a2], [.int .u8 a3]]) (cs := [.int .u8 a1, .int .u8 a2, .int .u8 a3]) hd hT hte hz rfl (by simp [evs, h1, h2, h3]) rfl rfl (fun zs h => by
  match zs, h with
  | [y1, y2, y3], _ => rfl) k
end
end Go.Sx

/-! Go's library: a builder grows, whatever it holds. Printed by a program of ours (wip/tools/gM63.py) out of the steps of the code. -/
namespace Go.Sx
open Go Go.Proofs Go.RowKit
set_option maxHeartbeats 8000000

theorem bldGrowG0 {bb n cap : Nat} {p : Value} {po : Option Addr} {bs : List UInt8} {e : Ent} (hown : OwnS 5 1 (.slice po bs.length cap) bs.length (bcells bs) e) (hcl : bs.length ≤ cap) (hn : n ≤ 1000000000) (hc : cap ≤ 100000000000) (E : Env) (R : Frag) (As : List Ent) :
  Tri Tryz.prog 278 [.pointer (some ⟨bb, 0, none⟩), .int .i64 (n : Int)] E R (e :: blk bb [p, .slice po bs.length cap] 245 :: As) (fun _ R' As' => Frag.le R R' ∧ ∃ o' e', As' = e' :: blk bb [p, o'] 245 :: As ∧ OwnS 5 1 o' bs.length (bcells bs) e') := by
 obtain ⟨R₀, hR₀⟩ : ∃ R₀, R₀ = R := ⟨_, rfl⟩
 subst hR₀
 refine ten Tryz.func278 ?_
 refine HC_seq ?_
 refine hdh 15 1 (fun jj R v => match jj with | 0 => v = .pointer (some ⟨bb, 0, none⟩) | 1 => v = .pointer (some ⟨bb, 0, none⟩) | 2 => v = .pointer (some ⟨bb, 1, none⟩) | 3 => v = .slice po bs.length cap | 4 => v = .int .i64 (cap : Int) | 5 => v = .int .i64 ((2 * cap : Nat) : Int) | 6 => v = .int .i64 (n : Int) | 7 => v = .int .i64 ((2 * cap + n : Nat) : Int) | 8 => ∃ b cs, v = .slice (some ⟨b, 0, none⟩) (2 * cap + n) cs.length ∧ R b = some (.cells ⟨cs⟩ 5 (0, 0)) ∧ R₀ b = none ∧ 2 * cap + n ≤ cs.length ∧ cs.length ≤ maxLen | 9 => v = .pointer (some ⟨bb, 0, none⟩) | 10 => v = .pointer (some ⟨bb, 0, none⟩) | 11 => v = .pointer (some ⟨bb, 1, none⟩) | 12 => v = .slice po bs.length cap | 13 => v = .int .i64 (bs.length : Int) | 14 => ∃ b cs, v = .slice (some ⟨b, 0, none⟩) bs.length cs.length ∧ R b = some (.cells ⟨cs⟩ 5 (0, 0)) ∧ R₀ b = none ∧ 2 * cap + n ≤ cs.length ∧ cs.length ≤ maxLen | _ => True) [(0, []), (1, [(0, 5)]), (2, [(1, 6)]), (3, [(2, 7)]), (4, [(3, 8)]), (5, [(4, 9)]), (6, []), (7, [(5, 10), (6, 11)]), (8, [(7, 12)]), (9, []), (10, [(9, 14)]), (11, [(10, 15)]), (12, [(11, 16)]), (13, [(12, 17)]), (14, [(8, 13), (13, 18)])] [(0, 5), (1, 6), (2, 7), (3, 8), (4, 9), (5, 10), (6, 11), (7, 12), (8, 13), (9, 14), (10, 15), (11, 16), (12, 17), (13, 18), (14, 19)] ?_ ?_ ?_
 ·intro j R R' v hle h; match j, h with | 0, h => exact h | 1, h => exact h | 2, h => exact h | 3, h => exact h | 4, h => exact h | 5, h => exact h | 6, h => exact h | 7, h => exact h | 8, ⟨b, cs, e, hb, r⟩ => exact ⟨b, cs, e, hle _ _ hb, r⟩ | 9, h => exact h | 10, h => exact h | 11, h => exact h | 12, h => exact h | 13, h => exact h | 14, ⟨b, cs, e, hb, r⟩ => exact ⟨b, cs, e, hle _ _ hb, r⟩ | _ + 15, h => exact h
 ·refine ⟨dm, dm, dm, dm, ?_, ?_, dm, ?_, ?_, dm, dm, dm, dm, dm, ?_, trivial⟩
  ·intro R1 G hle; rintro _ rfl
   refine HL_cap_slice rf Tryz.underlying55 rf dqn
  ·intro R1 G hle; rintro _ rfl
   refine HL_mulK (a := 2) (b := cap) rf rf rf rfl (by first | (show _ < (256 : Nat); omega) | (show _ < (2147483648 : Nat); omega) | (show _ < (4294967296 : Nat); omega) | (show _ < (9223372036854775808 : Nat); omega) | (show _ < (18446744073709551616 : Nat); omega)) dqn
  ·intro R1 G hle; rintro _ rfl _ rfl
   refine HL_addK (a := 2 * cap) (b := n) rf rf rf rfl (by first | (show _ < (256 : Nat); omega) | (show _ < (2147483648 : Nat); omega) | (show _ < (4294967296 : Nat); omega) | (show _ < (9223372036854775808 : Nat); omega) | (show _ < (18446744073709551616 : Nat); omega)) dqn
  ·intro R1 G hle; rintro _ rfl
   refine HL_rowNew rf rf (fun w => run303 (2 * cap + n) (by omega) w) (maxLen_big _ (by omega)) (fun b8 cs8 hl8 hm8 => ?_)
   refine HL_nil ?_
   refine HQ_sealN .here (fun R' hle' hb hno => ?_)
   exact HQ_dq1 hle' ⟨b8, cs8, rfl, hb, Frag.none_of_le hle hno, hl8, hm8⟩ .refl
  intro R1 G hle; rintro _ ⟨b8, cs8, rfl, hb8, hn8, hl8, hm8⟩ _ rfl
  refine HL_slice_hi rf Tryz.underlying55 ty5 rf rf (hi := bs.length) rfl (by omega) ?_
  rw [slp_zero]
  refine HL_nil ?_
  exact HQ_dq1 zlr ⟨b8, cs8, rfl, hb8, hn8, hl8, hm8⟩ .refl
 intro R1 hle; rintro _ rfl _ rfl _ rfl _ rfl _ rfl _ rfl _ rfl _ rfl _ ⟨b8, cs8, rfl, hb8, hn8, hl8, hm8⟩ _ rfl _ rfl _ rfl _ rfl _ rfl _ ⟨b, cs, rfl, hb, hnb, hlc, hmc⟩
 refine HL_unlay hb ?_
 have hle1 := Frag.le_del hle hnb
 refine sq4 ?_
 rcases hown with ⟨_, ⟨hv, hn0, rfl⟩ | ⟨g, cap', cur, hv, rfl, k1, k2, k3, k4⟩⟩
 ·injection hv with hv1 hv2 hv3
  subst hv1
  obtain rfl : bs = [] := List.eq_nil_of_length_eq_zero hn0
  refine sq6 ?_
  refine HL_copy0 rf Tryz.underlying55 ty5 rf rf rf ?_
  refine sq7 ?_
  refine HL_store (vs := [_]) ty55 rf rf rf rf sss rf ?_
  refine sq2 ?_
  exact fun w hs => ⟨_, _, _, rfl, hs.drop (.there .here), hle1, _, _, rfl, ⟨by simp [bcells], .inr ⟨b, cs.length, cs, rfl, rfl, by simp, hmc, by simp, by simp [bcells]⟩⟩⟩
 injection hv with hv1 hv2 hv3
 subst hv1 hv3
 refine sq6 ?_
 refine HL_copyTo (vs := bcells bs) (n := bs.length) rf Tryz.underlying55 ty5 rf rf (Nat.min_self _) (.own mmm (by rw [cut_eq]; exact ⟨by omega, by rw [List.drop_zero, k4]⟩)) (onesB' _) sss (by simp [bcells]; omega) ?_
 refine sq7 ?_
 refine HL_store (vs := [_]) ty55 rf rf rf rf sss rf ?_
 refine sq2 ?_
 exact fun w hs => ⟨_, _, _, rfl, hs.drop (.there .here), hle1, _, _, rfl, ⟨by simp [bcells], .inr ⟨b, cs.length, _, rfl, rfl, by omega, hmc, by rw [(spl_take (n := 0) (cs := cs) (vs := bcells bs) (by simp [bcells]; omega)).1, Nat.mul_one], by have := (spl_take (n := 0) (cs := cs) (vs := bcells bs) (by simp [bcells]; omega)).2; simpa [bcells] using this⟩⟩⟩
theorem bldGrowG {bb n : Nat} {bs : List UInt8} {As As0 : List Ent} (hB : Bld bb bs As As0) (hn : n ≤ 1000000000) (hl : bs.length ≤ 10000000000) (E : Env) (R : Frag) :
  Tri Tryz.prog 256 [.pointer (some ⟨bb, 0, none⟩), .int .i64 (n : Int)] E R As (fun _ R' As' => Frag.le R R' ∧ Bld bb bs As' As0) := by
 obtain ⟨p, o, e, rfl, hp, hown⟩ := hB
 obtain ⟨po, cap, rfl, hcl, hcm⟩ : ∃ po cap, o = .slice po bs.length cap ∧ bs.length ≤ cap ∧ cap ≤ maxLen := by
  rcases hown.2 with ⟨h1, h2, _⟩ | ⟨g, cap, cur, h1, _, h3, h4, _⟩
  ·exact ⟨none, 0, by rw [h1, h2], by omega, by simp [maxLen]⟩
  exact ⟨_, cap, h1, h3, h4⟩
 refine ten Tryz.func256 ?_
 refine sq3 ?_
 refine HL_perm _ (.swap _ _ _) ?_
 refine zlc rf (copyCheck hp E _ _) ?_
 rintro v R₂ As1 ⟨hle2, rfl⟩
 refine HL_perm _ (.swap _ _ _) ?_
 refine sq7 ?_
 refine HL_boolE (b' := false) (by simp) ?_
 refine sq6 ?_
 refine hdh 12 6 (fun jj R v => match jj with | 0 => v = .pointer (some ⟨bb, 0, none⟩) | 1 => v = .pointer (some ⟨bb, 0, none⟩) | 2 => v = .pointer (some ⟨bb, 1, none⟩) | 3 => v = .slice po bs.length cap | 4 => v = .int .i64 (cap : Int) | 5 => v = .pointer (some ⟨bb, 0, none⟩) | 6 => v = .pointer (some ⟨bb, 0, none⟩) | 7 => v = .pointer (some ⟨bb, 1, none⟩) | 8 => v = .slice po bs.length cap | 9 => v = .int .i64 (bs.length : Int) | 10 => v = .int .i64 ((cap - bs.length : Nat) : Int) | 11 => v = .int .i64 (n : Int) | _ => True) [(0, []), (1, [(0, 9)]), (2, [(1, 10)]), (3, [(2, 11)]), (4, [(3, 12)]), (5, []), (6, [(5, 14)]), (7, [(6, 15)]), (8, [(7, 16)]), (9, [(8, 17)]), (10, [(4, 13), (9, 18)]), (11, [])] [(0, 9), (1, 10), (2, 11), (3, 12), (4, 13), (5, 14), (6, 15), (7, 16), (8, 17), (9, 18), (10, 19), (11, 20)] ?_ ?_ ?_
 ·exact fun _ _ _ _ _ h => h
 ·refine ⟨dm, dm, dm, dm, ?_, dm, dm, dm, dm, dm, ?_, dm, trivial⟩
  ·intro R1 G hle; rintro _ rfl
   refine HL_cap_slice rf Tryz.underlying55 rf dqn
  intro R1 G hle; rintro _ rfl _ rfl
  refine HL_subK (a := cap) (b := bs.length) (c := cap - bs.length) rf rf rf (by omega) (by unfold maxLen at hcm; show _ < (9223372036854775808 : Nat); omega) dqn
 intro R1 hle; iterate 12 rintro _ rfl
 have hle3 := zlt hle2 hle
 refine HL_lss rf rf rf ?_
 refine sq2 ?_
 refine HC_cond rf (fun ht21 => ?_) (fun ht21 => ?_)
 ·have hlt : cap - bs.length < n := by have := of_decide_eq_true ht21; omega
  refine sq3 ?_
  refine zlc rf (bldGrowG0 hown hcl hn (by omega) E _ _) ?_
  rintro v R₄ As1 ⟨hle4, o', e', rfl, hown'⟩
  refine sq2 ?_
  exact fun w hs => ⟨_, _, _, rfl, hs, zlt hle3 hle4, _, o', e', rfl, .inr rfl, hown'⟩
 refine sq2 ?_
 exact fun w hs => ⟨_, _, _, rfl, hs, hle3, _, _, e, rfl, .inr rfl, hown⟩
end Go.Sx

/-! Runes out of a text. Printed by a program of ours (wip/tools/gM51.py) out of the steps of the code. -/
namespace Go.Sx
open Go Go.Proofs Go.RowKit
set_option maxHeartbeats 8000000

def firstV (i : Nat) : Nat := if i < 128 then 240 else if i < 194 then 241 else if i < 224 then 2 else if i = 224 then 19 else if i < 237 then 3 else if i = 237 then 35 else if i < 240 then 3 else if i = 240 then 52 else if i < 244 then 4 else if i = 244 then 68 else 241
def accLo (j : Nat) : Nat := if j = 1 then 160 else if j = 3 then 144 else if j ≤ 4 then 128 else 0
def accHi (j : Nat) : Nat := if j = 2 then 159 else if j = 4 then 143 else if j ≤ 4 then 191 else 0
def firstCells : List Value := (List.range 256).map fun i => .int .u8 (firstV i : Int)
def accCells : List Value := (List.range 16).flatMap fun j => [.int .u8 (accLo j : Int), .int .u8 (accHi j : Int)]
def GlobU (R : Frag) : Prop := RdR R 4 0 256 firstCells ∧ RdR R 5 0 32 accCells
theorem GlobU.mono {R R' : Frag} (h : GlobU R) (hle : Frag.le R R') : GlobU R' := ⟨h.1.mono hle, h.2.mono hle⟩
theorem first_rd {R : Frag} (h : GlobU R) {i : Nat} (hi : i < 256) : RdR R 4 (0 + i * 1) 1 [.int .u8 (firstV i : Int)] := by
 refine h.1.part ?_
 rw [cut_eq]
 refine ⟨by simp [firstCells]; omega, ?_⟩
 rw [List.drop_eq_getElem_cons (by simp [firstCells]; omega)]
 simp [firstCells]
theorem acc_rd {R : Frag} (h : GlobU R) {j : Nat} (hj : j < 16) : RdR R 5 (0 + j * 2) 2 [.int .u8 (accLo j : Int), .int .u8 (accHi j : Int)] := by
 refine h.2.part ?_
 have : ∀ j, j < 16 → cut accCells (0 + j * 2) 2 = some [.int .u8 (accLo j : Int), .int .u8 (accHi j : Int)] := by
  intro j hj
  match j, hj with
  | 0, _ | 1, _ | 2, _ | 3, _ | 4, _ | 5, _ | 6, _ | 7, _ | 8, _ | 9, _ | 10, _ | 11, _ | 12, _ | 13, _ | 14, _ | 15, _ => rfl
  | n + 16, h => omega
 simpa using this j hj
theorem first_spec : ∀ i, i < 256 → 128 ≤ i → firstV i = 241 ∨ (firstV i < 240 ∧ 2 ≤ firstV i &&& 7 ∧ firstV i &&& 7 ≤ 4 ∧ firstV i / 2 ^ 4 < 5) := by decide +kernel
def slow (n b0 b1 b2 b3 : Nat) : Nat × Nat :=
 if 240 ≤ firstV b0 then (65533, 1)
 else if n < firstV b0 &&& 7 then (65533, 1)
 else if b1 < accLo (firstV b0 / 2 ^ 4) ∨ accHi (firstV b0 / 2 ^ 4) < b1 then (65533, 1)
 else if firstV b0 &&& 7 ≤ 2 then (((b0 &&& 31) * 2 ^ 6) ||| (b1 &&& 63), 2)
 else if b2 < 128 ∨ 191 < b2 then (65533, 1)
 else if firstV b0 &&& 7 ≤ 3 then (((b0 &&& 15) * 2 ^ 12) ||| ((b1 &&& 63) * 2 ^ 6) ||| (b2 &&& 63), 3)
 else if b3 < 128 ∨ 191 < b3 then (65533, 1)
 else (((b0 &&& 7) * 2 ^ 18) ||| ((b1 &&& 63) * 2 ^ 12) ||| ((b2 &&& 63) * 2 ^ 6) ||| (b3 &&& 63), 4)
def bat (s : ByteArray) (i : Nat) : Nat := ((kb s).getD i 0).toNat
theorem bat_lt (s : ByteArray) (i : Nat) : bat s i < 256 := UInt8.toNat_lt _
theorem bat_get {s : ByteArray} {i : Nat} (h : i < s.size) : ∃ c : UInt8, s[i]? = some c ∧ c.toNat = bat s i := by
 refine ⟨s[i], by simp [h], ?_⟩
 unfold bat kb
 rw [List.getD_eq_getElem?_getD, List.getElem?_eq_getElem (by simpa using h)]
 rfl
def runeAt (s : ByteArray) : Nat × Nat := if s.size = 0 then (65533, 0) else if bat s 0 < 128 then (bat s 0, 1) else slow s.size (bat s 0) (bat s 1) (bat s 2) (bat s 3)
theorem slow234 {R : Frag} {s : ByteArray} (hG : GlobU R) (hpos : 0 < s.size) (h128 : 128 ≤ bat s 0) : Pure Tryz.prog 234 [.string s] R (fun _ r => r = .tuple #[.int .i32 ((slow s.size (bat s 0) (bat s 1) (bat s 2) (bat s 3)).1 : Int), .int .i64 ((slow s.size (bat s 0) (bat s 1) (bat s 2) (bat s 3)).2 : Int)]) := by
 obtain ⟨d0, h0, e0⟩ := bat_get hpos
 have hb00 := bat_lt s 0
 intro E As
 refine ten Tryz.func234 ?_
 refine sq16 ?_
 refine sq2 ?_
 refine HL_boolE (b' := false) (by simp; omega) ?_
 refine sq8 ?_
 refine HL_indexS rf Tryz.underlying9 rf rf (i := 0) rfl h0 ?_
 rw [e0]
 refine sq6 ?_
 refine HL_indexAddr_arr rf Tryz.underlying309 ty5 rf rf (j := bat s 0) (bat_lt s 0) ?_
 refine HL_load_one rf ty5 rf (first_rd hG (bat_lt s 0)).rd ?_
 obtain ⟨x, hx⟩ : ∃ x, x = firstV (bat s 0) := ⟨_, rfl⟩
 have hsp := first_spec (bat s 0) (bat_lt s 0) h128
 rw [← hx] at hsp ⊢
 refine sq10 ?_
 refine HC_cond rf (fun ht23 => ?_) (fun ht23 => ?_)
 ·have hx1 : x = 241 := by have := of_decide_eq_true ht23; omega
  refine sq3 ?_
  refine HL_convN (a := x) rf ⟨_, Tryz.underlying5⟩ Tryz.underlying21 rf (by first | (show _ < (256 : Nat); omega) | (show _ < (2147483648 : Nat); omega) | (show _ < (9223372036854775808 : Nat); omega)) ?_
  refine HL_shl (v := -2147483648) rf rf rf (by omega) (by rw [hx1]; rfl) ?_
  refine HL_shr (z := -1) rf rf rf (by omega) rf ?_
  refine sq6 ?_
  refine HL_indexS rf Tryz.underlying9 rf rf (i := 0) rfl h0 ?_
  rw [e0]
  refine HL_convN (a := bat s 0) rf ⟨_, Tryz.underlying5⟩ Tryz.underlying21 rf (by first | (show _ < (256 : Nat); omega) | (show _ < (2147483648 : Nat); omega) | (show _ < (9223372036854775808 : Nat); omega)) ?_
  refine HL_move rf rf ?_
  refine HL_bin (r := .int .i32 0) rf rf rf (fun w => by
   have e : BitVec.ofInt IntKind.i32.bits (-1) = BitVec.allOnes _ := by decide
   simp only [eqGuard, binOp, Op.intBits, e, BitVec.not_allOnes, BitVec.and_zero]
   rfl) ?_
  refine HL_move rf rf ?_
  refine HL_bin (r := .int .i32 65533) rf rf rf (fun w => rfl) ?_
  refine HL_bin (r := .int .i32 65533) rf rf rf (fun w => rfl) ?_
  refine sq7 ?_
  have e : slow s.size (bat s 0) (bat s 1) (bat s 2) (bat s 3) = (65533, 1) := by
   unfold slow
   rw [← hx]
   rw [if_pos (by omega)]
  exact zrp zlr (by rw [e]; rfl)
 have hx2 : x < 240 := by have := of_decide_eq_false ht23; omega
 have hx3 : x &&& 7 ≤ 4 ∧ 2 ≤ x &&& 7 ∧ x / 2 ^ 4 < 5 := by omega
 have hx4 : x &&& 7 ≤ 7 := Nat.and_le_right
 refine sq5 ?_
 refine HL_andN (a := x) (b := 7) rf rf rf (by first | (show _ < (256 : Nat); omega) | (show _ < (2147483648 : Nat); omega) | (show _ < (9223372036854775808 : Nat); omega)) (by first | (show _ < (256 : Nat); omega) | (show _ < (2147483648 : Nat); omega) | (show _ < (9223372036854775808 : Nat); omega)) ?_
 refine HL_convN (a := x &&& 7) rf ⟨_, Tryz.underlying5⟩ Tryz.underlying3 rf (by first | (show _ < (256 : Nat); omega) | (show _ < (2147483648 : Nat); omega) | (show _ < (9223372036854775808 : Nat); omega)) ?_
 refine sq6 ?_
 refine HL_shrN (a := x) (n := 4) rf rf rf (by decide) ?_
 refine HL_indexAddr_arr rf Tryz.underlying312 ty311 rf rf (j := x / 2 ^ 4) (by omega) ?_
 refine HL_load_agg rf ty311 rf (vs := [_, _]) (acc_rd hG (j := x / 2 ^ 4) (by omega)).rd ?_
 refine HL_alloc rf z311 rf (fun b9 => ?_)
 refine HL_store (vs := [_, _]) ty311 rf rf rf rf sss rf ?_
 refine sq10 ?_
 refine HC_cond rf (fun ht45 => ?_) (fun ht45 => ?_)
 ·have hn : s.size < x &&& 7 := by have := of_decide_eq_true ht45; omega
  refine sq9 ?_
  have e : slow s.size (bat s 0) (bat s 1) (bat s 2) (bat s 3) = (65533, 1) := by
   unfold slow
   rw [← hx]
   rw [if_neg (by omega)]
   rw [if_pos hn]
  exact zrp zlr (by rw [e]; rfl)
 have hn : ¬ s.size < x &&& 7 := by have := of_decide_eq_false ht45; omega
 obtain ⟨d1, h1, e1⟩ := bat_get (s := s) (i := 1) (by omega)
 have hb0 := bat_lt s 0
 have hb1 := bat_lt s 1
 have a1 : bat s 0 &&& 31 ≤ 31 := Nat.and_le_right
 have a2 : bat s 1 &&& 63 ≤ 63 := Nat.and_le_right
 refine sq5 ?_
 refine HL_indexS rf Tryz.underlying9 rf rf (i := 1) rfl h1 ?_
 rw [e1]
 refine sq10 ?_
 refine HL_segp 6 57 (fun c => c = true ↔ (bat s 1 < accLo (x / 2 ^ 4) ∨ accHi (x / 2 ^ 4) < bat s 1)) ?_ ?_
 ·refine HL_move_b rf rf (fun hb52 => ?_) (fun hb52 => ?_)
  ·refine sq6 ?_
   exact zsp (h := by simp at hb52 ⊢; omega)
  refine sq10 ?_
  exact zsp (h := by simp at hb52 ⊢; omega)
 intro c57 hc57
 refine HL_nil ?_
 refine HQ_then ?_
 refine HC_cond rf (fun ht57 => ?_) (fun ht57 => ?_)
 ·have hac := hc57.1 ht57
  refine sq9 ?_
  have e : slow s.size (bat s 0) (bat s 1) (bat s 2) (bat s 3) = (65533, 1) := by
   unfold slow
   rw [← hx]
   rw [if_neg (by omega)]
   rw [if_neg hn, if_pos hac]
  exact zrp zlr (by rw [e]; rfl)
 have hac : ¬ (bat s 1 < accLo (x / 2 ^ 4) ∨ accHi (x / 2 ^ 4) < bat s 1) := fun e => by
  rw [hc57.2 e] at ht57
  cases ht57
 refine sq9 ?_
 refine HC_cond rf (fun ht59 => ?_) (fun ht59 => ?_)
 ·have hz : x &&& 7 ≤ 2 := by have := of_decide_eq_true ht59; omega
  refine sq3 ?_
  refine HL_andN (a := bat s 0) (b := 31) rf rf rf (by first | (show _ < (256 : Nat); omega) | (show _ < (2147483648 : Nat); omega) | (show _ < (9223372036854775808 : Nat); omega)) (by first | (show _ < (256 : Nat); omega) | (show _ < (2147483648 : Nat); omega) | (show _ < (9223372036854775808 : Nat); omega)) ?_
  refine HL_convN (a := bat s 0 &&& 31) rf ⟨_, Tryz.underlying5⟩ Tryz.underlying21 rf (by first | (show _ < (256 : Nat); omega) | (show _ < (2147483648 : Nat); omega) | (show _ < (9223372036854775808 : Nat); omega)) ?_
  refine HL_shlN (a := bat s 0 &&& 31) (n := 6) rf rf rf (by decide) rfl (by first | (show _ < (256 : Nat); omega) | (show _ < (2147483648 : Nat); omega) | (show _ < (9223372036854775808 : Nat); omega)) ?_
  refine HL_move rf rf ?_
  refine HL_andN (a := bat s 1) (b := 63) rf rf rf (by first | (show _ < (256 : Nat); omega) | (show _ < (2147483648 : Nat); omega) | (show _ < (9223372036854775808 : Nat); omega)) (by first | (show _ < (256 : Nat); omega) | (show _ < (2147483648 : Nat); omega) | (show _ < (9223372036854775808 : Nat); omega)) ?_
  refine HL_convN (a := bat s 1 &&& 63) rf ⟨_, Tryz.underlying5⟩ Tryz.underlying21 rf (by first | (show _ < (256 : Nat); omega) | (show _ < (2147483648 : Nat); omega) | (show _ < (9223372036854775808 : Nat); omega)) ?_
  refine HL_orN (a := (bat s 0 &&& 31) * 2 ^ 6) (b := bat s 1 &&& 63) rf rf rf (by first | (show _ < (256 : Nat); omega) | (show _ < (2147483648 : Nat); omega) | (show _ < (9223372036854775808 : Nat); omega)) (by first | (show _ < (256 : Nat); omega) | (show _ < (2147483648 : Nat); omega) | (show _ < (9223372036854775808 : Nat); omega)) ?_
  refine sq7 ?_
  have e : slow s.size (bat s 0) (bat s 1) (bat s 2) (bat s 3) = (((bat s 0 &&& 31) * 2 ^ 6) ||| (bat s 1 &&& 63), 2) := by
   unfold slow
   rw [← hx]
   rw [if_neg (by omega)]
   rw [if_neg hn, if_neg hac, if_pos hz]
  exact zrp zlr (by rw [e]; rfl)
 have hz : ¬ x &&& 7 ≤ 2 := by have := of_decide_eq_false ht59; omega
 obtain ⟨d2, h2, e2⟩ := bat_get (s := s) (i := 2) (by omega)
 have hb2 := bat_lt s 2
 have a3 : bat s 0 &&& 15 ≤ 15 := Nat.and_le_right
 have a4 : bat s 2 &&& 63 ≤ 63 := Nat.and_le_right
 refine sq5 ?_
 refine HL_indexS rf Tryz.underlying9 rf rf (i := 2) rfl h2 ?_
 rw [e2]
 refine sq8 ?_
 refine HL_segp 4 75 (fun c => c = true ↔ (bat s 2 < 128 ∨ 191 < bat s 2)) ?_ ?_
 ·refine HL_move_b rf rf (fun hb72 => ?_) (fun hb72 => ?_)
  ·refine sq4 ?_
   exact zsp (h := by simp at hb72 ⊢; omega)
  refine sq6 ?_
  exact zsp (h := by simp at hb72 ⊢; omega)
 intro c75 hc75
 refine HL_nil ?_
 refine HQ_then ?_
 refine HC_cond rf (fun ht75 => ?_) (fun ht75 => ?_)
 ·have hac2 := hc75.1 ht75
  refine sq9 ?_
  have e : slow s.size (bat s 0) (bat s 1) (bat s 2) (bat s 3) = (65533, 1) := by
   unfold slow
   rw [← hx]
   rw [if_neg (by omega)]
   rw [if_neg hn, if_neg hac, if_neg hz, if_pos hac2]
  exact zrp zlr (by rw [e]; rfl)
 have hac2 : ¬ (bat s 2 < 128 ∨ 191 < bat s 2) := fun e => by
  rw [hc75.2 e] at ht75
  cases ht75
 refine sq9 ?_
 refine HC_cond rf (fun ht77 => ?_) (fun ht77 => ?_)
 ·have hz3 : x &&& 7 ≤ 3 := by have := of_decide_eq_true ht77; omega
  refine sq3 ?_
  refine HL_andN (a := bat s 0) (b := 15) rf rf rf (by first | (show _ < (256 : Nat); omega) | (show _ < (2147483648 : Nat); omega) | (show _ < (9223372036854775808 : Nat); omega)) (by first | (show _ < (256 : Nat); omega) | (show _ < (2147483648 : Nat); omega) | (show _ < (9223372036854775808 : Nat); omega)) ?_
  refine HL_convN (a := bat s 0 &&& 15) rf ⟨_, Tryz.underlying5⟩ Tryz.underlying21 rf (by first | (show _ < (256 : Nat); omega) | (show _ < (2147483648 : Nat); omega) | (show _ < (9223372036854775808 : Nat); omega)) ?_
  refine HL_shlN (a := bat s 0 &&& 15) (n := 12) rf rf rf (by decide) rfl (by first | (show _ < (256 : Nat); omega) | (show _ < (2147483648 : Nat); omega) | (show _ < (9223372036854775808 : Nat); omega)) ?_
  refine HL_move rf rf ?_
  refine HL_andN (a := bat s 1) (b := 63) rf rf rf (by first | (show _ < (256 : Nat); omega) | (show _ < (2147483648 : Nat); omega) | (show _ < (9223372036854775808 : Nat); omega)) (by first | (show _ < (256 : Nat); omega) | (show _ < (2147483648 : Nat); omega) | (show _ < (9223372036854775808 : Nat); omega)) ?_
  refine HL_convN (a := bat s 1 &&& 63) rf ⟨_, Tryz.underlying5⟩ Tryz.underlying21 rf (by first | (show _ < (256 : Nat); omega) | (show _ < (2147483648 : Nat); omega) | (show _ < (9223372036854775808 : Nat); omega)) ?_
  refine HL_shlN (a := bat s 1 &&& 63) (n := 6) rf rf rf (by decide) rfl (by first | (show _ < (256 : Nat); omega) | (show _ < (2147483648 : Nat); omega) | (show _ < (9223372036854775808 : Nat); omega)) ?_
  refine HL_orN (a := ((bat s 0 &&& 15) * 2 ^ 12)) (b := ((bat s 1 &&& 63) * 2 ^ 6)) rf rf rf (by first | (show _ < (256 : Nat); omega) | (show _ < (2147483648 : Nat); omega) | (show _ < (9223372036854775808 : Nat); omega)) (by first | (show _ < (256 : Nat); omega) | (show _ < (2147483648 : Nat); omega) | (show _ < (9223372036854775808 : Nat); omega)) ?_
  refine HL_move rf rf ?_
  refine HL_andN (a := bat s 2) (b := 63) rf rf rf (by first | (show _ < (256 : Nat); omega) | (show _ < (2147483648 : Nat); omega) | (show _ < (9223372036854775808 : Nat); omega)) (by first | (show _ < (256 : Nat); omega) | (show _ < (2147483648 : Nat); omega) | (show _ < (9223372036854775808 : Nat); omega)) ?_
  refine HL_convN (a := bat s 2 &&& 63) rf ⟨_, Tryz.underlying5⟩ Tryz.underlying21 rf (by first | (show _ < (256 : Nat); omega) | (show _ < (2147483648 : Nat); omega) | (show _ < (9223372036854775808 : Nat); omega)) ?_
  have hor222 : (((bat s 0 &&& 15) * 2 ^ 12) ||| ((bat s 1 &&& 63) * 2 ^ 6)) < 2 ^ 21 := Nat.or_lt_two_pow (by omega) (by omega)
  refine HL_orN (a := (((bat s 0 &&& 15) * 2 ^ 12) ||| ((bat s 1 &&& 63) * 2 ^ 6))) (b := (bat s 2 &&& 63)) rf rf rf (by first | (show _ < (256 : Nat); omega) | (show _ < (2147483648 : Nat); omega) | (show _ < (9223372036854775808 : Nat); omega)) (by first | (show _ < (256 : Nat); omega) | (show _ < (2147483648 : Nat); omega) | (show _ < (9223372036854775808 : Nat); omega)) ?_
  refine sq7 ?_
  have e : slow s.size (bat s 0) (bat s 1) (bat s 2) (bat s 3) = (((((bat s 0 &&& 15) * 2 ^ 12) ||| ((bat s 1 &&& 63) * 2 ^ 6)) ||| (bat s 2 &&& 63)), 3) := by
   unfold slow
   rw [← hx]
   rw [if_neg (by omega)]
   rw [if_neg hn, if_neg hac, if_neg hz, if_neg hac2, if_pos hz3]
  exact zrp zlr (by rw [e]; rfl)
 have hz3 : ¬ x &&& 7 ≤ 3 := by have := of_decide_eq_false ht77; omega
 obtain ⟨d3, h3, e3⟩ := bat_get (s := s) (i := 3) (by omega)
 have hb3 := bat_lt s 3
 have a5 : bat s 0 &&& 7 ≤ 7 := Nat.and_le_right
 have a6 : bat s 3 &&& 63 ≤ 63 := Nat.and_le_right
 refine sq5 ?_
 refine HL_indexS rf Tryz.underlying9 rf rf (i := 3) rfl h3 ?_
 rw [e3]
 refine sq8 ?_
 refine HL_segp 4 98 (fun c => c = true ↔ (bat s 3 < 128 ∨ 191 < bat s 3)) ?_ ?_
 ·refine HL_move_b rf rf (fun hb95 => ?_) (fun hb95 => ?_)
  ·refine sq4 ?_
   exact zsp (h := by simp at hb95 ⊢; omega)
  refine sq6 ?_
  exact zsp (h := by simp at hb95 ⊢; omega)
 intro c98 hc98
 refine HL_nil ?_
 refine HQ_then ?_
 refine HC_cond rf (fun ht98 => ?_) (fun ht98 => ?_)
 ·have hac3 := hc98.1 ht98
  refine sq9 ?_
  have e : slow s.size (bat s 0) (bat s 1) (bat s 2) (bat s 3) = (65533, 1) := by
   unfold slow
   rw [← hx]
   rw [if_neg (by omega)]
   rw [if_neg hn, if_neg hac, if_neg hz, if_neg hac2, if_neg hz3, if_pos hac3]
  exact zrp zlr (by rw [e]; rfl)
 have hac3 : ¬ (bat s 3 < 128 ∨ 191 < bat s 3) := fun e => by
  rw [hc98.2 e] at ht98
  cases ht98
 refine sq5 ?_
 refine HL_andN (a := bat s 0) (b := 7) rf rf rf (by first | (show _ < (256 : Nat); omega) | (show _ < (2147483648 : Nat); omega) | (show _ < (9223372036854775808 : Nat); omega)) (by first | (show _ < (256 : Nat); omega) | (show _ < (2147483648 : Nat); omega) | (show _ < (9223372036854775808 : Nat); omega)) ?_
 refine HL_convN (a := bat s 0 &&& 7) rf ⟨_, Tryz.underlying5⟩ Tryz.underlying21 rf (by first | (show _ < (256 : Nat); omega) | (show _ < (2147483648 : Nat); omega) | (show _ < (9223372036854775808 : Nat); omega)) ?_
 refine HL_shlN (a := bat s 0 &&& 7) (n := 18) rf rf rf (by decide) rfl (by first | (show _ < (256 : Nat); omega) | (show _ < (2147483648 : Nat); omega) | (show _ < (9223372036854775808 : Nat); omega)) ?_
 refine HL_move rf rf ?_
 refine HL_andN (a := bat s 1) (b := 63) rf rf rf (by first | (show _ < (256 : Nat); omega) | (show _ < (2147483648 : Nat); omega) | (show _ < (9223372036854775808 : Nat); omega)) (by first | (show _ < (256 : Nat); omega) | (show _ < (2147483648 : Nat); omega) | (show _ < (9223372036854775808 : Nat); omega)) ?_
 refine HL_convN (a := bat s 1 &&& 63) rf ⟨_, Tryz.underlying5⟩ Tryz.underlying21 rf (by first | (show _ < (256 : Nat); omega) | (show _ < (2147483648 : Nat); omega) | (show _ < (9223372036854775808 : Nat); omega)) ?_
 refine HL_shlN (a := bat s 1 &&& 63) (n := 12) rf rf rf (by decide) rfl (by first | (show _ < (256 : Nat); omega) | (show _ < (2147483648 : Nat); omega) | (show _ < (9223372036854775808 : Nat); omega)) ?_
 refine HL_orN (a := ((bat s 0 &&& 7) * 2 ^ 18)) (b := ((bat s 1 &&& 63) * 2 ^ 12)) rf rf rf (by first | (show _ < (256 : Nat); omega) | (show _ < (2147483648 : Nat); omega) | (show _ < (9223372036854775808 : Nat); omega)) (by first | (show _ < (256 : Nat); omega) | (show _ < (2147483648 : Nat); omega) | (show _ < (9223372036854775808 : Nat); omega)) ?_
 refine HL_move rf rf ?_
 refine HL_andN (a := bat s 2) (b := 63) rf rf rf (by first | (show _ < (256 : Nat); omega) | (show _ < (2147483648 : Nat); omega) | (show _ < (9223372036854775808 : Nat); omega)) (by first | (show _ < (256 : Nat); omega) | (show _ < (2147483648 : Nat); omega) | (show _ < (9223372036854775808 : Nat); omega)) ?_
 refine HL_convN (a := bat s 2 &&& 63) rf ⟨_, Tryz.underlying5⟩ Tryz.underlying21 rf (by first | (show _ < (256 : Nat); omega) | (show _ < (2147483648 : Nat); omega) | (show _ < (9223372036854775808 : Nat); omega)) ?_
 refine HL_shlN (a := bat s 2 &&& 63) (n := 6) rf rf rf (by decide) rfl (by first | (show _ < (256 : Nat); omega) | (show _ < (2147483648 : Nat); omega) | (show _ < (9223372036854775808 : Nat); omega)) ?_
 have hor262 : (((bat s 0 &&& 7) * 2 ^ 18) ||| ((bat s 1 &&& 63) * 2 ^ 12)) < 2 ^ 21 := Nat.or_lt_two_pow (by omega) (by omega)
 refine HL_orN (a := (((bat s 0 &&& 7) * 2 ^ 18) ||| ((bat s 1 &&& 63) * 2 ^ 12))) (b := ((bat s 2 &&& 63) * 2 ^ 6)) rf rf rf (by first | (show _ < (256 : Nat); omega) | (show _ < (2147483648 : Nat); omega) | (show _ < (9223372036854775808 : Nat); omega)) (by first | (show _ < (256 : Nat); omega) | (show _ < (2147483648 : Nat); omega) | (show _ < (9223372036854775808 : Nat); omega)) ?_
 refine HL_move rf rf ?_
 refine HL_andN (a := bat s 3) (b := 63) rf rf rf (by first | (show _ < (256 : Nat); omega) | (show _ < (2147483648 : Nat); omega) | (show _ < (9223372036854775808 : Nat); omega)) (by first | (show _ < (256 : Nat); omega) | (show _ < (2147483648 : Nat); omega) | (show _ < (9223372036854775808 : Nat); omega)) ?_
 refine HL_convN (a := bat s 3 &&& 63) rf ⟨_, Tryz.underlying5⟩ Tryz.underlying21 rf (by first | (show _ < (256 : Nat); omega) | (show _ < (2147483648 : Nat); omega) | (show _ < (9223372036854775808 : Nat); omega)) ?_
 have hor263 : ((((bat s 0 &&& 7) * 2 ^ 18) ||| ((bat s 1 &&& 63) * 2 ^ 12)) ||| ((bat s 2 &&& 63) * 2 ^ 6)) < 2 ^ 21 := Nat.or_lt_two_pow (by omega) (by omega)
 refine HL_orN (a := ((((bat s 0 &&& 7) * 2 ^ 18) ||| ((bat s 1 &&& 63) * 2 ^ 12)) ||| ((bat s 2 &&& 63) * 2 ^ 6))) (b := (bat s 3 &&& 63)) rf rf rf (by first | (show _ < (256 : Nat); omega) | (show _ < (2147483648 : Nat); omega) | (show _ < (9223372036854775808 : Nat); omega)) (by first | (show _ < (256 : Nat); omega) | (show _ < (2147483648 : Nat); omega) | (show _ < (9223372036854775808 : Nat); omega)) ?_
 refine sq6 ?_
 have e : slow s.size (bat s 0) (bat s 1) (bat s 2) (bat s 3) = ((((((bat s 0 &&& 7) * 2 ^ 18) ||| ((bat s 1 &&& 63) * 2 ^ 12)) ||| ((bat s 2 &&& 63) * 2 ^ 6)) ||| (bat s 3 &&& 63)), 4) := by
  unfold slow
  rw [← hx]
  rw [if_neg (by omega)]
  rw [if_neg hn, if_neg hac, if_neg hz, if_neg hac2, if_neg hz3, if_neg hac3]
 exact zrp zlr (by rw [e]; rfl)
theorem rune175 {R : Frag} {s : ByteArray} (hG : GlobU R) (hpos : 0 < s.size) : Pure Tryz.prog 175 [.string s] R (fun _ r => r = .tuple #[.int .i32 ((runeAt s).1 : Int), .int .i64 ((runeAt s).2 : Int)]) := by
 obtain ⟨d0, h0, e0⟩ := bat_get hpos
 have hb0 := bat_lt s 0
 intro E As
 refine ten Tryz.func175 ?_
 refine sq10 ?_
 refine HL_neqS rf rf rf ?_
 refine HL_boolE (b' := true) (by simp; exact fun e => absurd hpos (by rw [e]; decide)) ?_
 refine HL_move rf rf ?_
 refine sqm ?_
 refine HL_guard_yes rf rf ?_
 refine HL_indexS rf Tryz.underlying9 rf rf (i := 0) rfl h0 ?_
 rw [e0]
 first | (refine HL_guard_no rf rf rf rf ?_) | (refine HL_guard_yes rf rf ?_; refine HL_lss rf rf rf ?_)
 refine sq3 ?_
 refine HC_cond rf (fun ht10 => ?_) (fun ht10 => ?_)
 ·have hlt : bat s 0 < 128 := by have := of_decide_eq_true ht10; omega
  refine sq3 ?_
  refine HL_indexS rf Tryz.underlying9 rf rf (i := 0) rfl h0 ?_
  rw [e0]
  refine HL_convN (a := bat s 0) rf ⟨_, Tryz.underlying5⟩ Tryz.underlying21 rf (by first | (show _ < (256 : Nat); omega) | (show _ < (2147483648 : Nat); omega) | (show _ < (9223372036854775808 : Nat); omega)) ?_
  refine sq7 ?_
  exact zrp zlr (by unfold runeAt; rw [if_neg (by omega), if_pos hlt]; rfl)
 have hge : 128 ≤ bat s 0 := by have := of_decide_eq_false ht10; omega
 refine sq2 ?_
 refine zlc rf (slow234 hG hpos hge _ _) ?_
 rintro vR₁ R₁ As1 ⟨hAs, hle1, rfl⟩
 rw [hAs]
 clear hAs As1
 refine sq9 ?_
 exact zrp hle1 (by unfold runeAt; rw [if_neg (by omega), if_neg (by omega)])
end Go.Sx

/-! Plain laws: a text as JSON, rune by rune. -/
namespace Go.Sx
open Go Go.RowKit

theorem slow2 : ∀ b0, b0 < 256 → (128 ≤ b0 ∧ firstV b0 < 240) → (firstV b0 &&& 7 ≤ 2 → 2 ≤ b0 &&& 31) ∧ (firstV b0 &&& 7 = 3 → firstV b0 / 2 ^ 4 = 1 ∨ 1 ≤ b0 &&& 15) ∧ (firstV b0 / 2 ^ 4 = 3 ∨ 1 ≤ b0 &&& 7 ∨ firstV b0 &&& 7 ≤ 3) := by decide +kernel
theorem slow1 : ∀ b1, b1 < 256 → (160 ≤ b1 ∧ b1 ≤ 191 → 32 ≤ b1 &&& 63) ∧ (144 ≤ b1 ∧ b1 ≤ 191 → 16 ≤ b1 &&& 63) := by decide +kernel
theorem slow_ge {n b0 b1 b2 b3 : Nat} (h0 : b0 < 256) (h128 : 128 ≤ b0) (h1 : b1 < 256) (hn : 1 ≤ n) : 128 ≤ (slow n b0 b1 b2 b3).1 ∧ 1 ≤ (slow n b0 b1 b2 b3).2 ∧ (slow n b0 b1 b2 b3).2 ≤ n := by
 have hs := first_spec b0 h0 h128
 unfold slow
 split
 ·exact ⟨by decide, by decide, hn⟩
 rename_i hf
 have hf2 : firstV b0 < 240 := by omega
 obtain ⟨s2, s3, s4⟩ := slow2 b0 h0 ⟨h128, hf2⟩
 obtain ⟨t1, t2⟩ := slow1 b1 h1
 split
 ·exact ⟨by decide, by decide, hn⟩
 rename_i hsz
 split
 ·exact ⟨by decide, by decide, hn⟩
 rename_i hac
 split
 ·rename_i hz
  refine ⟨?_, by show 1 ≤ 2; omega, by show 2 ≤ n; omega⟩
  have := s2 hz
  exact Nat.le_trans (by omega) (Nat.left_le_or (n := (b0 &&& 31) * 2 ^ 6) (m := b1 &&& 63))
 rename_i hz
 split
 ·exact ⟨by decide, by decide, hn⟩
 split
 ·rename_i hz3
  refine ⟨?_, by show 1 ≤ 3; omega, by show 3 ≤ n; omega⟩
  refine Nat.le_trans ?_ (Nat.left_le_or (n := ((b0 &&& 15) * 2 ^ 12) ||| ((b1 &&& 63) * 2 ^ 6)) (m := b2 &&& 63))
  rcases s3 (by omega) with e | e
  ·refine Nat.le_trans ?_ (Nat.right_le_or (n := (b0 &&& 15) * 2 ^ 12) (m := (b1 &&& 63) * 2 ^ 6))
   have hl : accLo (firstV b0 / 2 ^ 4) = 160 := by rw [e]; rfl
   have hh : accHi (firstV b0 / 2 ^ 4) = 191 := by rw [e]; rfl
   have := t1 ⟨by omega, by omega⟩
   omega
  refine Nat.le_trans ?_ (Nat.left_le_or (n := (b0 &&& 15) * 2 ^ 12) (m := (b1 &&& 63) * 2 ^ 6))
  omega
 rename_i hz3
 split
 ·exact ⟨by decide, by decide, hn⟩
 refine ⟨?_, by show 1 ≤ 4; omega, by show 4 ≤ n; omega⟩
 refine Nat.le_trans ?_ (Nat.left_le_or (n := ((b0 &&& 7) * 2 ^ 18) ||| ((b1 &&& 63) * 2 ^ 12) ||| ((b2 &&& 63) * 2 ^ 6)) (m := b3 &&& 63))
 refine Nat.le_trans ?_ (Nat.left_le_or (n := ((b0 &&& 7) * 2 ^ 18) ||| ((b1 &&& 63) * 2 ^ 12)) (m := (b2 &&& 63) * 2 ^ 6))
 rcases s4 with e | e | e
 ·refine Nat.le_trans ?_ (Nat.right_le_or (n := (b0 &&& 7) * 2 ^ 18) (m := (b1 &&& 63) * 2 ^ 12))
  have hl : accLo (firstV b0 / 2 ^ 4) = 144 := by rw [e]; rfl
  have hh : accHi (firstV b0 / 2 ^ 4) = 191 := by rw [e]; rfl
  have := t2 ⟨by omega, by omega⟩
  omega
 ·refine Nat.le_trans ?_ (Nat.left_le_or (n := (b0 &&& 7) * 2 ^ 18) (m := (b1 &&& 63) * 2 ^ 12))
  omega
 omega
/-- The first rune of a list of bytes, and how many bytes it is. -/
def runeL (b : List UInt8) : Nat × Nat :=
 if b.length = 0 then (65533, 0) else if (b.getD 0 0).toNat < 128 then ((b.getD 0 0).toNat, 1) else slow b.length (b.getD 0 0).toNat (b.getD 1 0).toNat (b.getD 2 0).toNat (b.getD 3 0).toNat
theorem runeAt_eq (s : ByteArray) : runeAt s = runeL (kb s) := rfl
theorem runeL_sz {b : List UInt8} (h : 0 < b.length) : 1 ≤ (runeL b).2 ∧ (runeL b).2 ≤ b.length := by
 unfold runeL
 rw [if_neg (by omega)]
 split
 ·exact ⟨Nat.le_refl 1, h⟩
 exact (slow_ge (UInt8.toNat_lt _) (by omega) (UInt8.toNat_lt _) h).2
theorem runeL_ge {b : List UInt8} (h : 0 < b.length) (h128 : ¬ (b.getD 0 0).toNat < 128) : 128 ≤ (runeL b).1 := by
 unfold runeL
 rw [if_neg (by omega), if_neg h128]
 exact (slow_ge (UInt8.toNat_lt _) (by omega) (UInt8.toNat_lt _) h).1
theorem runeL_lt {b : List UInt8} (h : 0 < b.length) (h128 : (b.getD 0 0).toNat < 128) : runeL b = ((b.getD 0 0).toNat, 1) := by
 unfold runeL
 rw [if_neg (by omega), if_pos h128]
/-- A digit of sixteen. -/
def hexD (n : Nat) : UInt8 := (kb ⟨#[48, 49, 50, 51, 52, 53, 54, 55, 56, 57, 97, 98, 99, 100, 101, 102]⟩).getD n 0
/-- The first rune of a text as JSON has it: the rune c, its n bytes. -/
def escC (html : Bool) (b : List UInt8) (c n : Nat) : List UInt8 :=
 if c = 65533 ∧ n = 1 then [92, 117, 102, 102, 102, 100]
 else if c = 34 ∨ c = 92 then [92, UInt8.ofNat c]
 else if c = 8 then [92, 98] else if c = 12 then [92, 102] else if c = 10 then [92, 110] else if c = 13 then [92, 114] else if c = 9 then [92, 116]
 else if c < 32 ∨ c = 8232 ∨ c = 8233 ∨ (html = true ∧ (c = 60 ∨ c = 62 ∨ c = 38)) then [92, 117, hexD (c / 2 ^ 12 &&& 15), hexD (c / 2 ^ 8 &&& 15), hexD (c / 2 ^ 4 &&& 15), hexD (c &&& 15)]
 else b.take n
def esc (html : Bool) (b : List UInt8) : List UInt8 := escC html b (runeL b).1 (runeL b).2
/-- A text as JSON has it, without its quotes. -/
def jqs (html : Bool) : List UInt8 → List UInt8
 | [] => []
 | c :: t => esc html (c :: t) ++ jqs html (t.drop ((runeL (c :: t)).2 - 1))
termination_by b => b.length
decreasing_by simp; omega
theorem jqs_pos (html : Bool) {b : List UInt8} (h : 0 < b.length) : jqs html b = esc html b ++ jqs html (b.drop (runeL b).2) := by
 cases b with
 | nil => simp at h
 | cons c t =>
  rw [jqs]
  have := (runeL_sz h).1
  rw [show (runeL (c :: t)).2 = ((runeL (c :: t)).2 - 1) + 1 by omega, List.drop_succ_cons]
  simp
def jq (html : Bool) (b : List UInt8) : List UInt8 := [34] ++ jqs html b ++ [34]
theorem esc_len (html : Bool) {b : List UInt8} (h : 0 < b.length) : (esc html b).length ≤ 6 * (runeL b).2 := by
 have := runeL_sz h
 unfold esc escC
 repeat' split
 all_goals simp
 all_goals omega
theorem jqs_len (html : Bool) : ∀ (n : Nat) (b : List UInt8), b.length ≤ n → (jqs html b).length ≤ 6 * b.length := by
 intro n
 induction n with
 | zero =>
  intro b h
  obtain rfl := List.eq_nil_of_length_eq_zero (by omega : b.length = 0)
  simp [jqs]
 | succ n ih =>
  intro b h
  rcases Nat.eq_zero_or_pos b.length with e | hp
  ·obtain rfl := List.eq_nil_of_length_eq_zero e
   simp [jqs]
  rw [jqs_pos html hp, List.length_append]
  have h1 := esc_len html hp
  have h2 := runeL_sz hp
  have h3 := ih (b.drop (runeL b).2) (by simp; omega)
  simp only [List.length_drop] at h3
  omega
theorem jq_len (html : Bool) (b : List UInt8) : (jq html b).length ≤ 6 * b.length + 2 := by
 have := jqs_len html b.length b (Nat.le_refl _)
 unfold jq
 simp
 omega
theorem hex_get : ∀ i, i < 16 → (⟨#[48, 49, 50, 51, 52, 53, 54, 55, 56, 57, 97, 98, 99, 100, 101, 102]⟩ : ByteArray)[i]? = some (hexD i)
 | 0, _ | 1, _ | 2, _ | 3, _ | 4, _ | 5, _ | 6, _ | 7, _ | 8, _ | 9, _ | 10, _ | 11, _ | 12, _ | 13, _ | 14, _ | 15, _ => rfl
 | n + 16, h => absurd h (by omega)
theorem enc34 : ∀ c : Nat, c = 34 ∨ c = 92 → Utf8.encode (c : Int) = ⟨#[UInt8.ofNat c]⟩ := by
 rintro c (rfl | rfl) <;> rfl
theorem kbl (s : ByteArray) : (kb s).length = s.size := rfl
theorem kb_app (a b : ByteArray) : kb (a ++ b) = kb a ++ kb b := by
 simp [kb]
theorem kb_from (s : ByteArray) (i : Nat) : kb (s.extract i s.size) = (kb s).drop i := by
 simp only [kb, ByteArray.data_extract, Array.toList_extract, List.extract_eq_take_drop]
 exact List.take_of_length_le (by simp)
theorem kb_to (s : ByteArray) (i : Nat) : kb (s.extract 0 i) = (kb s).take i := by
 simp [kb]
theorem kb_mid (s : ByteArray) (i j : Nat) : kb (s.extract i j) = ((kb s).drop i).take (j - i) := by
 simp [kb, List.extract_eq_take_drop]
end Go.Sx

/-! Rules: a text's bytes behind others where there is room; a method by an interface. Generic: no program is named. -/
namespace Go.Sx
open Go Go.RowKit Go.Lib
section
variable {P : Program} {ops : Array Oper} {Q : Exit → Act → World → Prop} {N : Nat} {F : List (Nat × Value)} {E : Env} {R : Frag} {As As' : List Ent}
variable {d : Nat} {ty : TypeId} {pos : String} {af : Array Edge} {l : List Oper} {x y z : Operand} {T yT : TypeId}
theorem HL_appendS_room {t u te TT g n cap : Nat} {s : Operand} {str : ByteArray} {cs : List Value} {agg : Bool} (hd : Nat.blt d N = true) (hT : P.underlying t = some (.slice te)) (hu : P.underlying u = some .string) (hte : Ty P te agg 1)
  (hsv : ev F s = some (.slice (some ⟨g, 0, none⟩) n cap)) (hx : ev F x = some (.string str)) (hs : Sel As (blk g cs TT) (blk g (cs.take n ++ bcells (kb str) ++ cs.drop (n + str.size)) TT) As') (hroom : n + str.size ≤ cap) (hfit : n + str.size ≤ cs.length)
  (k : HL P ops Q N ((d, .slice (some ⟨g, 0, none⟩) (n + str.size) cap) :: F) E R As' l) :
  HL P ops Q N F E R As (⟨some d, .call ⟨.builtin .append, #[s, x], #[t, u]⟩, ty, pos, af, none⟩ :: l) := fun a w ha hst => by
 obtain ⟨i, hi, hisz⟩ := hte.info
 have hown := hst.own g _ hs.mem
 have hf := run_firstCells_string (P := P) w 1 str
 have hst2 := run_storeCells_at P g n TT (strCells str) 0 cs.toArray w hown (by simpa [strCells_length] using hfit) (strCells_oneCell str)
 simp only [Nat.add_zero, strCells_length] at hst2
 have hr : (Builtin.append_ #[t, u] ty #[.slice (some ⟨g, 0, none⟩) n cap, .string str]).run P w =
   .ok (.slice (some ⟨g, 0, none⟩) (n + str.size) cap) (w.setRow g (cs.toArray.toList.take n ++ strCells str ++ cs.toArray.toList.drop (n + str.size)).toArray) := by
  simp [Builtin.append_, run_underlying' hT, run_underlying' hu, sizeOf, typeInfo, hi, hisz, Builtin.lenOf, hroom, hf, Addr.add_lit, hst2]
 refine wp_value rfl (v := .slice (some ⟨g, 0, none⟩) (n + str.size) cap) (w' := w.setRow g (cs.take n ++ bcells (kb str) ++ cs.drop (n + str.size)).toArray) ?_ (k _ _ (ha.put hd) (hst.turn hs ?_ ?_ ?_ ?_ ?_))
 ·rw [strCells_bcells] at hr
  simp [execOp, resolve, invoke, builtin, ha.eval hsv, ha.eval hx]
  simp only [List.append_assoc] at hr ⊢
  rw [hr]
  simp
 ·simp [World.setRow]
 ·simp [World.setRow]
 ·simp [World.setRow]
 ·simp [World.setRow, Array.getElem?_modify, hown]
 intro k hk
 simp [World.setRow, Array.getElem?_modify, Ne.symm hk]
/-- A slice of an array, of no length. -/
theorem HL_sliceArr0 {n te sz : Nat} {agg : Bool} {b : Nat} {kd : IntKind} (hd : Nat.blt d N = true) (hT : P.underlying T = some (.array n te)) (he : Ty P te agg sz) (hn : Nat.blt 0 n = true) (hx : ev F x = some (.pointer (some ⟨b, 0, none⟩))) (hy : ev F y = some (.int kd 0))
  (k : HL P ops Q N ((d, .slice (some ⟨b, 0, none⟩) 0 n) :: F) E R As l) : HL P ops Q N F E R As (⟨some d, .slice T x none (some y) none, ty, pos, af, none⟩ :: l) :=
 HL_same hd (fun q w ha _ => by
  have hn' : ¬ n = 0 := by simp at hn; omega
  simp [execOp, ha.eval hx, ha.eval hy, Instr.sliceAt, Instr.sureAddr, asAddr, run_underlying' hT, Instr.sliceBounds, Instr.sliceBound, asIntOf, he.run_sizeOf, hn', Addr.add_mk]) k
/-- A slice made, with a length and room. -/
theorem HL_makeN {te sz bytes n c : Nat} {agg : Bool} {z : Value} {kl kc : IntKind} (hd : Nat.blt d N = true) (hT : P.underlying T = some (.slice te)) (hte : Ty P te agg sz) (hz : TyZ P te z) (hby : TyB P te bytes)
  (hx : ev F x = some (.int kl (n : Int))) (hy : ev F y = some (.int kc (c : Int))) (hn : n ≤ c) (hb : bytes * c ≤ 281474976710656) (hc : c ≤ maxLen)
  (k : ∀ b cs, cs.length = c * sz → HL P ops Q N ((d, .slice (some ⟨b, 0, none⟩) n c) :: F) E R (blk b cs te :: As) l) :
  HL P ops Q N F E R As (⟨some d, .makeSlice T x y, ty, pos, af, none⟩ :: l) := fun a w ha hs => by
 obtain ⟨i, hi, hisz⟩ := hte.info
 obtain ⟨i', hi', hiz⟩ := hz
 obtain ⟨i'', hi'', hib⟩ := hby
 rw [hi] at hi' hi''
 injection hi' with hi'
 injection hi'' with hi''
 subst hi' hi'' hisz hib
 have h63' : (c : Int) ≤ 9223372036854775807 := by
  have h := hc
  simp [maxLen] at h
  omega
 have hb' : (i.bytes : Int) * (c : Int) ≤ 281474976710656 := by
  have h : ((i.bytes * c : Nat) : Int) ≤ 281474976710656 := by omega
  rwa [Int.natCast_mul] at h
 have hr := run_make (P := P) w T te i z hT hi hiz kl kc n c (by omega) (by omega) hb' h63'
 simp only [Int.toNat_natCast] at hr
 refine wp_value rfl (v := .slice (some ⟨w.heap.size, 0, none⟩) n c) (w' := { w with heap := w.heap.push (.cells (madeCells z.cells (c * i.size)) te (0, 0)) }) ?_
  (k w.heap.size (madeCells z.cells (c * i.size)).toList (by simp [size_madeCells]) _ _ (ha.put hd) (hs.push _))
 simp only [execOp, ha.eval hx, ha.eval hy]
 rw [Sem.run_bind, hr]
 rfl
end
end Go.Sx

/-! The package: the digest takes texts and numbers in. Printed by a program of ours (wip/tools/gM17.py) out of the steps of the code. -/
namespace Go.Sx
open Go Go.Proofs Go.RowKit
set_option maxHeartbeats 8000000

theorem perm22 {α : Type} (a b c d : α) (l : List α) : (a :: b :: c :: d :: l).Perm (c :: d :: a :: b :: l) := (List.perm_append_comm (l₁ := [a, b]) (l₂ := [c, d])).append_right l
theorem hashString {dg : Nat} {bs : List UInt8} {s : ByteArray} {As As0 : List Ent} (hs0 : s.size ≤ 100000000) (hD : Dig dg bs As As0) (hl : bs.length ≤ 100000000) (E : Env) (R : Frag) :
  Tri Tryz.prog 192 [.agg #[.pointer (some ⟨dg, 0, none⟩)], .string s] E R As (fun r R' As' => Frag.le R R' ∧ r = .agg #[.pointer (some ⟨dg, 0, none⟩)] ∧ Dig dg (bs ++ kb s) As' As0) := by
 obtain ⟨o, e, rfl, hown⟩ := hD
 refine ten Tryz.func192 ?_
 refine sq2 ?_
 refine HL_box rf rf (vs := [.pointer (some ⟨dg, 0, none⟩)]) rf (fun b2 => ?_)
 refine HL_alloc rf z168 rf (fun b4 => ?_)
 refine sq7 ?_
 refine HL_perm _ (perm22 _ _ _ _ _) ?_
 refine zlc rf (writeString hs0 hown hl E R _) ?_
 rintro v R₂ As1 ⟨hle, rfl, o', e', rfl, hown'⟩
 refine sq11 ?_
 refine HL_neq_nilIface Tryz.underlying263 rf rf ?_
 refine sq7 ?_
 refine HL_load_agg rf ty168 rf (vs := [_]) (.own mmm rf) ?_
 refine HL_store (vs := [_]) ty168 rf rf rf rf sss rf ?_
 refine sq3 ?_
 refine HQ_ret_cell (.inl rfl) rf rf ty168 (vs := [_]) rdd ?_
 exact fun w hs => ⟨_, _, _, rfl, (hs.drop (.there (.there .here))).drop (.there (.there .here)), hle, rfl, o', e', rfl, hown'⟩
theorem byte_shift0 (m : Nat) : IntKind.u8.wrap (m : Int) = ((byteAt (m : Int) 0).toNat : Int) := by
 have := byte_shift m 0
 simpa using this
theorem shr_nat (m k : Nat) (hk : k < 8) : ((m : Int)).fdiv (2 ^ (min ((8 * k : Nat) : Int).toNat IntKind.u64.bits)) = ((m / 2 ^ (8 * k) : Nat) : Int) := by
 have h1 : min ((8 * k : Nat) : Int).toNat IntKind.u64.bits = 8 * k := by
  simp [IntKind.bits]; omega
 rw [h1, Int.fdiv_eq_ediv_of_nonneg _ (by exact Int.le_of_lt (Int.pow_pos (by omega)))]
 simp
theorem putUint64 {bb m : Nat} {c0 c1 c2 c3 c4 c5 c6 c7 : Value} (E : Env) (R : Frag) (As : List Ent) :
  Tri Tryz.prog 274 [.agg #[], .slice (some ⟨bb, 0, none⟩) 8 8, .int .u64 (m : Int)] E R (blk bb [c0, c1, c2, c3, c4, c5, c6, c7] 313 :: As) (fun _ R' As' => Frag.le R R' ∧ As' = blk bb (bcells (le8 (m : Int))) 313 :: As) := by
 refine ten Tryz.func274 ?_
 refine sq2 ?_
 refine HL_box rf rf (vs := []) rf (fun b3 => ?_)
 refine sq5 ?_
 refine HL_indexAddrI rf Tryz.underlying55 ty5 rf rf (j := 7) (by omega) (by omega) ?_
 refine sq7 ?_
 refine HL_conv rf ⟨_, Tryz.underlying48⟩ Tryz.underlying5 rf (byte_shift0 m) ?_
 refine HL_indexAddrI rf Tryz.underlying55 ty5 rf rf (j := 0) (by omega) (by omega) ?_
 refine HL_store (vs := [_]) ty5 rf rf rf rf sss rf ?_
 refine sq6 ?_
 refine HL_shr rf rf rf (by omega) (shr_nat m 1 (by omega)) ?_
 refine HL_conv rf ⟨_, Tryz.underlying48⟩ Tryz.underlying5 rf (byte_shift m 1) ?_
 refine HL_indexAddrI rf Tryz.underlying55 ty5 rf rf (j := 1) (by omega) (by omega) ?_
 refine HL_store (vs := [_]) ty5 rf rf rf rf sss rf ?_
 refine sq6 ?_
 refine HL_shr rf rf rf (by omega) (shr_nat m 2 (by omega)) ?_
 refine HL_conv rf ⟨_, Tryz.underlying48⟩ Tryz.underlying5 rf (byte_shift m 2) ?_
 refine HL_indexAddrI rf Tryz.underlying55 ty5 rf rf (j := 2) (by omega) (by omega) ?_
 refine HL_store (vs := [_]) ty5 rf rf rf rf sss rf ?_
 refine sq6 ?_
 refine HL_shr rf rf rf (by omega) (shr_nat m 3 (by omega)) ?_
 refine HL_conv rf ⟨_, Tryz.underlying48⟩ Tryz.underlying5 rf (byte_shift m 3) ?_
 refine HL_indexAddrI rf Tryz.underlying55 ty5 rf rf (j := 3) (by omega) (by omega) ?_
 refine HL_store (vs := [_]) ty5 rf rf rf rf sss rf ?_
 refine sq6 ?_
 refine HL_shr rf rf rf (by omega) (shr_nat m 4 (by omega)) ?_
 refine HL_conv rf ⟨_, Tryz.underlying48⟩ Tryz.underlying5 rf (byte_shift m 4) ?_
 refine HL_indexAddrI rf Tryz.underlying55 ty5 rf rf (j := 4) (by omega) (by omega) ?_
 refine HL_store (vs := [_]) ty5 rf rf rf rf sss rf ?_
 refine sq6 ?_
 refine HL_shr rf rf rf (by omega) (shr_nat m 5 (by omega)) ?_
 refine HL_conv rf ⟨_, Tryz.underlying48⟩ Tryz.underlying5 rf (byte_shift m 5) ?_
 refine HL_indexAddrI rf Tryz.underlying55 ty5 rf rf (j := 5) (by omega) (by omega) ?_
 refine HL_store (vs := [_]) ty5 rf rf rf rf sss rf ?_
 refine sq6 ?_
 refine HL_shr rf rf rf (by omega) (shr_nat m 6 (by omega)) ?_
 refine HL_conv rf ⟨_, Tryz.underlying48⟩ Tryz.underlying5 rf (byte_shift m 6) ?_
 refine HL_indexAddrI rf Tryz.underlying55 ty5 rf rf (j := 6) (by omega) (by omega) ?_
 refine HL_store (vs := [_]) ty5 rf rf rf rf sss rf ?_
 refine sq5 ?_
 refine HL_shr rf rf rf (by omega) (shr_nat m 7 (by omega)) ?_
 refine HL_conv rf ⟨_, Tryz.underlying48⟩ Tryz.underlying5 rf (byte_shift m 7) ?_
 refine HL_indexAddrI rf Tryz.underlying55 ty5 rf rf (j := 7) (by omega) (by omega) ?_
 refine HL_store (vs := [_]) ty5 rf rf rf rf sss rf ?_
 refine sq2 ?_
 exact fun w hs => ⟨_, _, _, rfl, hs.drop .here, Frag.le_refl _, rfl⟩
end Go.Sx

/-! The package: the digest takes numbers in. Printed by a program of ours (wip/tools/gM18.py) out of the steps of the code. -/
namespace Go.Sx
open Go Go.Proofs Go.RowKit
set_option maxHeartbeats 8000000

theorem u64_nonneg (n : Int) : 0 ≤ IntKind.u64.wrap n := by
 simp [IntKind.wrap, IntKind.bits, IntKind.signed]
 exact Int.emod_nonneg _ (by omega)
theorem perm12 {α : Type} (a b c : α) (l : List α) : (a :: b :: c :: l).Perm (b :: c :: a :: l) := (List.perm_append_comm (l₁ := [a]) (l₂ := [b, c])).append_right l
theorem perm32 {α : Type} (a b c d e : α) (l : List α) : (a :: b :: c :: d :: e :: l).Perm (d :: e :: a :: b :: c :: l) := (List.perm_append_comm (l₁ := [a, b, c]) (l₂ := [d, e])).append_right l
theorem hashUint64 {dg : Nat} {bs : List UInt8} {n : Int} (hn : 0 ≤ n) {As As0 : List Ent} (hD : Dig dg bs As As0) (hl : bs.length ≤ 100000000) (E : Env) (R : Frag) :
  Tri Tryz.prog 241 [.agg #[.pointer (some ⟨dg, 0, none⟩)], .int .u64 n] E R As (fun r R' As' => Frag.le R R' ∧ r = .agg #[.pointer (some ⟨dg, 0, none⟩)] ∧ Dig dg (bs ++ le8 n) As' As0) := by
 obtain ⟨o, e, rfl, hown⟩ := hD
 obtain ⟨m, rfl⟩ := Int.eq_ofNat_of_zero_le hn
 refine ten Tryz.func241 ?_
 refine sq2 ?_
 refine HL_box rf rf (vs := [.pointer (some ⟨dg, 0, none⟩)]) rf (fun b2 => ?_)
 refine HL_alloc rf z168 rf (fun b4 => ?_)
 refine sq4 ?_
 refine HL_alloc rf z313 rf (fun b5 => ?_)
 refine sq3 ?_
 refine hdh 3 1 (fun jj R v => match jj with | 0 => v = .agg #[] | 1 => v = .slice (some ⟨b5, 0, none⟩) 8 8 | 2 => v = .int .u64 (m : Int) | _ => True) [(0, []), (1, []), (2, [])] [(0, 8), (1, 9), (2, 10)] ?_ ?_ ?_
 ·exact fun _ _ _ _ _ h => h
 ·refine ⟨?_, ?_, dm, trivial⟩
  ·intro R1 G hle
   refine HL_load0 rf ty286 rf dqn
  intro R1 G hle
  refine HL_sliceArr rf Tryz.underlying313 ty5 rf rf dqn
 intro R1 hle; rintro _ rfl _ rfl _ rfl
 have hle1 := hle
 refine zlc rf (putUint64 E R1 _) ?_
 rintro v R₂ As1 ⟨hle2, rfl⟩
 refine sq3 ?_
 refine HC_seal .here (fun R₃ hle3 hb5 => ?_)
 refine HC_perm _ (perm22 _ _ _ _ _) ?_
 refine hdh 3 4 (fun jj R v => match jj with | 0 => v = .pointer (some ⟨b2, 0, none⟩) | 1 => v = .pointer (some ⟨dg, 0, none⟩) | 2 => v = .slice (some ⟨b5, 0, none⟩) 8 8 | _ => True) [(0, []), (1, [(0, 13)]), (2, [])] [(0, 13), (1, 14), (2, 15)] ?_ ?_ ?_
 ·exact fun _ _ _ _ _ h => h
 ·refine ⟨dm, dm, ?_, trivial⟩
  intro R1 G hle
  refine HL_sliceArr rf Tryz.underlying313 ty5 rf rf dqn
 intro R1 hle; rintro _ rfl _ rfl _ rfl
 have hle4 := hle
 refine zlc rf (writeBytes (n := 8) (s := le8 (m : Int)) (by omega) rfl hown hl E R1 _ (RdR.mono hle4 ⟨_, _, _, hb5, by rfl⟩)) ?_
 rintro v R₅ As1 ⟨hle5, rfl, o', e', rfl, hown'⟩
 refine sq11 ?_
 refine HL_neq_nilIface Tryz.underlying263 rf rf ?_
 refine sq7 ?_
 refine HL_load_agg rf ty168 rf (vs := [_]) (.own mmm rf) ?_
 refine HL_store (vs := [_]) ty168 rf rf rf rf sss rf ?_
 refine sq3 ?_
 refine HQ_ret_cell (.inl rfl) rf rf ty168 (vs := [_]) rdd ?_
 exact fun w hs => ⟨_, _, _, rfl, (hs.drop (.there (.there .here))).drop (.there (.there .here)), zlt hle1 (zlt hle2 (zlt hle3 (zlt hle4 hle5))), rfl, o', e', rfl, hown'⟩
theorem hashBool {dg : Nat} {bs : List UInt8} {b : Bool} {As As0 : List Ent} (hD : Dig dg bs As As0) (hl : bs.length ≤ 100000000) (E : Env) (R : Frag) :
  Tri Tryz.prog 242 [.agg #[.pointer (some ⟨dg, 0, none⟩)], .bool b] E R As (fun r R' As' => Frag.le R R' ∧ r = .agg #[.pointer (some ⟨dg, 0, none⟩)] ∧ Dig dg (bs ++ le8 (bif b then 1 else 0)) As' As0) := by
 obtain ⟨o, e, rfl, hown⟩ := hD
 refine ten Tryz.func242 ?_
 refine sq2 ?_
 refine HL_box rf rf (vs := [.pointer (some ⟨dg, 0, none⟩)]) rf (fun b2 => ?_)
 refine HL_alloc rf z168 rf (fun b4 => ?_)
 refine sq8 ?_
 refine HC_cond rf (fun ht5 => ?_) (fun ht5 => ?_)
 ·subst ht5
  refine sq2 ?_
  refine HL_load_agg rf ty168 rf (vs := [_]) (.own mmm rf) ?_
  refine HL_perm _ (perm22 _ _ _ _ _) ?_
  refine zlc rf (hashUint64 (n := 1) (by omega) ⟨o, e, rfl, hown⟩ hl E _) ?_
  rintro v R₂ As1 ⟨hle2, rfl, o', e', rfl, hown'⟩
  refine HL_store (vs := [_]) ty168 rf rf rf rf sss rf ?_
  refine sq4 ?_
  refine HQ_ret_cell (.inl rfl) rf rf ty168 (vs := [_]) rdd ?_
  exact fun w hs => ⟨_, _, _, rfl, (hs.drop (.there (.there .here))).drop (.there (.there .here)), hle2, rfl, o', e', rfl, hown'⟩
 subst ht5
 refine sq4 ?_
 refine HL_load_agg rf ty168 rf (vs := [_]) (.own mmm rf) ?_
 refine HL_perm _ (perm22 _ _ _ _ _) ?_
 refine zlc rf (hashUint64 (n := 0) (by omega) ⟨o, e, rfl, hown⟩ hl E _) ?_
 rintro v R₂ As1 ⟨hle2, rfl, o', e', rfl, hown'⟩
 refine HL_store (vs := [_]) ty168 rf rf rf rf sss rf ?_
 refine sq3 ?_
 refine HQ_ret_cell (.inl rfl) rf rf ty168 (vs := [_]) rdd ?_
 exact fun w hs => ⟨_, _, _, rfl, (hs.drop (.there (.there .here))).drop (.there (.there .here)), hle2, rfl, o', e', rfl, hown'⟩
theorem hashInt64 {dg : Nat} {bs : List UInt8} {n : Int} {As As0 : List Ent} (hD : Dig dg bs As As0) (hl : bs.length ≤ 100000000) (E : Env) (R : Frag) :
  Tri Tryz.prog 243 [.agg #[.pointer (some ⟨dg, 0, none⟩)], .int .i64 n] E R As (fun r R' As' => Frag.le R R' ∧ r = .agg #[.pointer (some ⟨dg, 0, none⟩)] ∧ Dig dg (bs ++ le8 (IntKind.u64.wrap n)) As' As0) := by
 obtain ⟨o, e, rfl, hown⟩ := hD
 refine ten Tryz.func243 ?_
 refine sq2 ?_
 refine HL_box rf rf (vs := [.pointer (some ⟨dg, 0, none⟩)]) rf (fun b2 => ?_)
 refine HL_alloc rf z168 rf (fun b4 => ?_)
 refine sq4 ?_
 refine HL_load_agg rf ty168 rf (vs := [_]) (.own mmm rf) ?_
 refine HL_move rf rf ?_
 refine HL_conv rf ⟨_, Tryz.underlying2⟩ Tryz.underlying48 rf rf ?_
 refine HL_perm _ (perm22 _ _ _ _ _) ?_
 refine zlc rf (hashUint64 (n := IntKind.u64.wrap n) (u64_nonneg n) ⟨o, e, rfl, hown⟩ hl E _) ?_
 rintro v R₂ As1 ⟨hle2, rfl, o', e', rfl, hown'⟩
 refine HL_store (vs := [_]) ty168 rf rf rf rf sss rf ?_
 refine sq3 ?_
 refine HQ_ret_cell (.inl rfl) rf rf ty168 (vs := [_]) rdd ?_
 exact fun w hs => ⟨_, _, _, rfl, (hs.drop (.there (.there .here))).drop (.there (.there .here)), hle2, rfl, o', e', rfl, hown'⟩
theorem hashFloat64 {dg : Nat} {bs : List UInt8} {n : Nat} {As As0 : List Ent} (hD : Dig dg bs As As0) (hl : bs.length ≤ 100000000) (E : Env) (R : Frag) :
  Tri Tryz.prog 244 [.agg #[.pointer (some ⟨dg, 0, none⟩)], .float .f64 n] E R As (fun r R' As' => Frag.le R R' ∧ r = .agg #[.pointer (some ⟨dg, 0, none⟩)] ∧ Dig dg (bs ++ le8 (n : Int)) As' As0) := by
 obtain ⟨o, e, rfl, hown⟩ := hD
 refine ten Tryz.func244 ?_
 refine sq2 ?_
 refine HL_box rf rf (vs := [.pointer (some ⟨dg, 0, none⟩)]) rf (fun b2 => ?_)
 refine HL_alloc rf z168 rf (fun b4 => ?_)
 refine sq3 ?_
 refine hdh 3 1 (fun jj R v => match jj with | 0 => v = .agg #[.pointer (some ⟨dg, 0, none⟩)] | 1 => v = .float .f64 n | 2 => v = .int .u64 (n : Int) | _ => True) [(0, []), (1, []), (2, [(1, 6)])] [(0, 5), (1, 6), (2, 7)] ?_ ?_ ?_
 ·exact fun _ _ _ _ _ h => h
 ·refine ⟨?_, dm, ?_, trivial⟩
  ·intro R1 G hle
   refine HL_load_agg rf ty168 rf (vs := [_]) (.own mmm rf) dqn
  intro R1 G hle; rintro _ rfl
  refine HL_extern (vs := [.float .f64 n]) rf rf (fun w => run177 n w) dqn
 intro R1 hle; rintro _ rfl _ rfl _ rfl
 have hle1 := hle
 refine HL_perm _ (perm22 _ _ _ _ _) ?_
 refine zlc rf (hashUint64 (n := (n : Int)) (by omega) ⟨o, e, rfl, hown⟩ hl E _) ?_
 rintro v R₂ As1 ⟨hle2, rfl, o', e', rfl, hown'⟩
 refine HL_store (vs := [_]) ty168 rf rf rf rf sss rf ?_
 refine sq3 ?_
 refine HQ_ret_cell (.inl rfl) rf rf ty168 (vs := [_]) rdd ?_
 exact fun w hs => ⟨_, _, _, rfl, (hs.drop (.there (.there .here))).drop (.there (.there .here)), zlt hle1 hle2, rfl, o', e', rfl, hown'⟩
end Go.Sx

/-! The package writes JSON: texts that need no escape, a small number. Printed by a program of ours (wip/tools/gM30.py) out of the steps of the code. -/
namespace Go.Sx
open Go Go.Proofs Go.RowKit
set_option maxHeartbeats 8000000

theorem appendUint2 {g cap TT : Nat} {cs : List Value} (hcap : 1 ≤ cap) (hcs : 1 ≤ cs.length) (E : Env) (R : Frag) (As : List Ent) : Tri Tryz.prog 305 [.slice (some ⟨g, 0, none⟩) 0 cap, .int .u64 2, .int .i64 10] E R (blk g cs TT :: As) (fun r R' As' => Frag.le R R' ∧ r = .slice (some ⟨g, 0, none⟩) 1 cap ∧ As' = blk g (.int .u8 50 :: cs.drop 1) TT :: As) := by
 refine ten Tryz.func305 ?_
 refine sq16 ?_
 refine sq9 ?_
 refine HL_conv rf ⟨_, Tryz.underlying48⟩ Tryz.underlying3 rf (z := 2) (by decide) ?_
 refine zlc rf (small2 R _ _) ?_
 rintro v R₂ As1 ⟨rfl, hle2, rfl⟩
 refine HL_appendS_room rf Tryz.underlying55 Tryz.underlying9 ty5 rf rf sss (by show 0 + 1 ≤ cap; omega) (by show 0 + 1 ≤ cs.length; omega) ?_
 refine sq7 ?_
 exact fun w hs => ⟨_, _, _, rfl, hs, hle2, rfl, rfl⟩
theorem appendInt2i {g cap TT : Nat} {cs : List Value} (hcap : 1 ≤ cap) (hcs : 1 ≤ cs.length) (E : Env) (R : Frag) (As : List Ent) : Tri Tryz.prog 286 [.slice (some ⟨g, 0, none⟩) 0 cap, .int .i64 2, .int .i64 10] E R (blk g cs TT :: As) (fun r R' As' => Frag.le R R' ∧ r = .slice (some ⟨g, 0, none⟩) 1 cap ∧ As' = blk g (.int .u8 50 :: cs.drop 1) TT :: As) := by
 refine ten Tryz.func286 ?_
 refine sq8 ?_
 refine HL_conv rf ⟨_, Tryz.underlying2⟩ Tryz.underlying48 rf (z := 2) (by decide) ?_
 refine sq16 ?_
 refine sq2 ?_
 refine zlc rf (appendUint2 hcap hcs E R As) ?_
 rintro v R₂ As1 ⟨hle2, rfl, rfl⟩
 refine sq5 ?_
 exact fun w hs => ⟨_, _, _, rfl, hs, hle2, rfl, rfl⟩
theorem appendInt2 {g cap TT : Nat} {cs : List Value} (hcap : 1 ≤ cap) (hcs : 1 ≤ cs.length) (E : Env) (R : Frag) (As : List Ent) : Tri Tryz.prog 263 [.slice (some ⟨g, 0, none⟩) 0 cap, .int .i64 2, .int .i64 10] E R (blk g cs TT :: As) (fun r R' As' => Frag.le R R' ∧ r = .slice (some ⟨g, 0, none⟩) 1 cap ∧ As' = blk g (.int .u8 50 :: cs.drop 1) TT :: As) := by
 refine ten Tryz.func263 ?_
 refine sq10 ?_
 refine zlc rf (appendInt2i hcap hcs E R As) ?_
 rintro v R₂ As1 ⟨hle2, rfl, hAs⟩
 rw [hAs]
 clear hAs As1
 refine sq5 ?_
 exact fun w hs => ⟨_, _, _, rfl, hs, hle2, rfl, rfl⟩
theorem formatInt2i (R : Frag) : Pure Tryz.prog 168 [.int .i64 2, .int .i64 10] R (fun _ r => r = .string ⟨#[50]⟩) := by
 intro E As
 refine ten Tryz.func168 ?_
 refine sq16 ?_
 refine sq2 ?_
 refine HL_boolE (b' := true) rf ?_
 refine HL_move rf rf ?_
 refine sqm ?_
 refine sq2 ?_
 refine HL_boolE (b' := true) rf ?_
 refine sq7 ?_
 refine zlc rf (small2 R _ _) ?_
 rintro v R₂ As1 ⟨rfl, hle2, rfl⟩
 refine sq7 ?_
 exact zrp hle2 rfl
theorem formatInt2 (R : Frag) : Pure Tryz.prog 90 [.int .i64 2, .int .i64 10] R (fun _ r => r = .string ⟨#[50]⟩) := by
 intro E As
 refine ten Tryz.func90 ?_
 refine sq9 ?_
 refine zlc rf (formatInt2i R _ _) ?_
 rintro v R₂ As1 ⟨rfl, hle2, rfl⟩
 refine sq5 ?_
 exact zrp hle2 rfl
theorem emit2 (R : Frag) : Pure Tryz.prog 88 [.agg [.int .i64 2, .int .u64 2, .string ⟨#[]⟩, .nilIface].toArray] R (fun _ r => r = .string ⟨#[50]⟩) := by
 intro E As
 refine ten Tryz.func88 ?_
 refine sq2 ?_
 refine HL_box rf rf (vs := [.int .i64 2, .int .u64 2, .string ⟨#[]⟩, .nilIface]) rf (fun b1 => ?_)
 refine sq5 ?_
 refine HL_load_agg rf ty95 rf (vs := [_, _, _, _]) rdd ?_
 refine zlc rf (asType R 2 _ _ _ _ _) ?_
 rintro v R₂ As1 ⟨rfl, hle2, rfl⟩
 refine sq16 ?_
 refine sq16 ?_
 refine sq1 ?_
 refine HL_load_agg rf ty95 rf (vs := [_, _, _, _]) rdd ?_
 refine zlc rf (asInt64 R₂ 2 _ _ _ _ _) ?_
 rintro v R₃ As1 ⟨rfl, hle3, rfl⟩
 refine HL_eq (show Value.int .i64 (IntKind.i64.wrap 2) = .int .i64 2 from congrArg (Value.int .i64) (by decide)) ?_
 refine zlc rf (formatInt2 R₃ _ _) ?_
 rintro v R₄ As1 ⟨rfl, hle4, rfl⟩
 refine sq6 ?_
 exact zrp (zlt hle2 (zlt hle3 hle4)) rfl
def safe (c : UInt8) : Prop := 32 ≤ c.toNat ∧ c.toNat < 128 ∧ c.toNat ≠ 34 ∧ c.toNat ≠ 92
theorem kb_get {s : ByteArray} {i : Nat} (h : i < s.size) : s[i]? = some ((kb s)[i]'h) := by
 rw [getElem?_pos s i h]; rfl
theorem jsonSafe {bb : Nat} {bs : List UInt8} {s : ByteArray} {As As0 : List Ent} (hB : Bld bb bs As As0) (hl : bs.length ≤ 10000000) (hs0 : s.size ≤ 1000) (hpos : 0 < s.size) (hsafe : ∀ c ∈ kb s, safe c) (E : Env) (R : Frag) :
  Tri Tryz.prog 257 [.pointer (some ⟨bb, 0, none⟩), .string s] E R As (fun _ R' As' => Frag.le R R' ∧ Bld bb (bs ++ [34] ++ kb s ++ [34]) As' As0) := by
 refine ten Tryz.func257 ?_
 refine sq3 ?_
 refine zlc rf (bldByte (c := 34) hB (by omega) E R) ?_
 rintro v R₁ As1 ⟨hle1, rfl, hB1⟩
 refine sq14 ?_
 refine hcl (fun F' R' As' m => ∃ i : Nat, i ≤ s.size ∧ s.size - i = m ∧ F' = [(0, .pointer (some ⟨bb, 0, none⟩)), (1, .string s), (4, .int .i64 0), (5, .int .i64 ((i : Int)))] ∧ As' = As1 ∧ Frag.le R₁ R') As1 s.size ⟨0, by omega, by omega, rfl, rfl, Frag.le_refl _⟩ ?_
 rintro F' R₂ As' m ⟨i, hi, rfl, rfl, hAs, hle2⟩
 rw [hAs]
 clear hAs As'
 refine sq9 ?_
 refine HC_cond rf (fun ht14 => ?_) (fun ht14 => ?_)
 ·have hlt : i < s.size := by simpa using ht14
  obtain ⟨h32, h128, h34, h92⟩ := hsafe _ (List.getElem_mem (l := kb s) (n := i) hlt)
  refine sq8 ?_
  refine HL_indexS (i := i) rf Tryz.underlying9 rf rf rfl (kb_get hlt) ?_
  refine sq7 ?_
  refine HL_boolE (b' := true) (by simp; omega) ?_
  refine sq8 ?_
  refine HL_boolE (b' := true) (by simp; omega) ?_
  refine HL_move rf rf ?_
  refine sqm ?_
  refine HL_guard_yes rf rf ?_
  refine HL_neq_int rf rf rf ?_
  refine HL_boolE (b' := true) (by simp; omega) ?_
  refine sq2 ?_
  refine sqm ?_
  refine HL_guard_yes rf rf ?_
  refine HL_neq_int rf rf rf ?_
  refine HL_boolE (b' := true) (by simp; omega) ?_
  refine sq7 ?_
  refine HL_addN (c := i + 1) rf rf rf (by omega) (by omega) ?_
  refine sq7 ?_
  refine hqr1 (s.size - (i + 1)) ⟨i + 1, by omega, rfl, rfl, rfl, hle2⟩
 have hge : i = s.size := by simp at ht14; omega
 subst hge
 refine sq12 ?_
 refine HL_boolE (b' := true) (by simp; omega) ?_
 refine sq7 ?_
 refine HL_sliceS_lo rf Tryz.underlying9 rf rf (lo := 0) rfl (by omega) ?_
 refine HL_eq (show Value.string (s.extract 0 s.size) = .string s from congrArg Value.string (by simp)) ?_
 refine zlc rf (bldStr (s := s) (by omega) hB1 (by simp; omega) E R₂) ?_
 rintro v R₃ As2 ⟨hle3, rfl, hB2⟩
 refine sq7 ?_
 refine zlc rf (bldByte (c := 34) hB2 (by simp [kb_len]; omega) E R₃) ?_
 rintro v R₄ As3 ⟨hle4, rfl, hB3⟩
 refine sq2 ?_
 exact fun w hs => ⟨_, _, _, rfl, hs, zlt hle1 (zlt hle2 (zlt hle3 hle4)), hB3⟩
theorem jsonValueSafe {bb : Nat} {bs : List UInt8} {s : ByteArray} {As As0 : List Ent} (hB : Bld bb bs As As0) (hl : bs.length ≤ 10000000) (hs0 : s.size ≤ 1000) (hpos : 0 < s.size) (hsafe : ∀ c ∈ kb s, safe c) (E : Env) (R : Frag) :
  Tri Tryz.prog 258 [.pointer (some ⟨bb, 0, none⟩), .agg [.int .i64 4, .int .u64 0, .string s, .nilIface].toArray] E R As (fun _ R' As' => Frag.le R R' ∧ Bld bb (bs ++ [34] ++ kb s ++ [34]) As' As0) := by
 refine ten Tryz.func258 ?_
 refine sq2 ?_
 refine HL_box rf rf (vs := [.int .i64 4, .int .u64 0, .string s, .nilIface]) rf (fun b3 => ?_)
 refine sq4 ?_
 refine HL_load_agg rf ty95 rf (vs := [_, _, _, _]) rdd ?_
 refine zlc rf (asType R 4 _ _ _ _ _) ?_
 rintro v R₂ As1 ⟨rfl, hle2, rfl⟩
 refine sq16 ?_
 refine sq16 ?_
 refine sq16 ?_
 refine sq8 ?_
 obtain ⟨p, o, e, rfl, hp, hown⟩ := hB
 refine HL_perm _ (perm12 _ _ _ _) ?_
 refine zlc rf (jsonSafe ⟨p, o, e, rfl, hp, hown⟩ hl hs0 hpos hsafe E R₂) ?_
 rintro v R₃ As2 ⟨hle3, p', o', e', rfl, hp', hown'⟩
 refine sq3 ?_
 exact fun w hs => ⟨_, _, _, rfl, hs.drop (.there (.there .here)), zlt hle2 hle3, p', o', e', rfl, hp', hown'⟩
theorem jsonValue2 {bb : Nat} {bs : List UInt8} {As As0 : List Ent} (hB : Bld bb bs As As0) (hl : bs.length ≤ 10000000) (E : Env) (R : Frag) :
  Tri Tryz.prog 258 [.pointer (some ⟨bb, 0, none⟩), .agg [.int .i64 2, .int .u64 2, .string ⟨#[]⟩, .nilIface].toArray] E R As (fun _ R' As' => Frag.le R R' ∧ Bld bb (bs ++ [50]) As' As0) := by
 refine ten Tryz.func258 ?_
 refine sq2 ?_
 refine HL_box rf rf (vs := [.int .i64 2, .int .u64 2, .string ⟨#[]⟩, .nilIface]) rf (fun b3 => ?_)
 refine sq4 ?_
 refine HL_load_agg rf ty95 rf (vs := [_, _, _, _]) rdd ?_
 refine zlc rf (asType R 2 _ _ _ _ _) ?_
 rintro v R₂ As1 ⟨rfl, hle2, rfl⟩
 refine sq16 ?_
 refine sq10 ?_
 refine HL_alloc rf z298 rf (fun b4 => ?_)
 refine sq3 ?_
 refine hdh 3 2 (fun jj R v => match jj with | 0 => v = .slice (some ⟨b4, 0, none⟩) 0 20 | 1 => v = .agg [.int .i64 2, .int .u64 2, .string ⟨#[]⟩, .nilIface].toArray | 2 => v = .int .i64 2 | _ => True) [(0, []), (1, []), (2, [(1, 36)])] [(0, 35), (1, 36), (2, 37)] ?_ ?_ ?_
 ·exact fun _ _ _ _ _ h => h
 ·refine ⟨?_, ?_, ?_, trivial⟩
  ·intro R1 G hle
   refine HL_sliceArr0 rf Tryz.underlying298 ty5 rf rf rf dqn
  ·intro R1 G hle
   refine HL_load_agg rf ty95 rf (vs := [_, _, _, _]) (.own mmm rf) dqn
  intro R1 G hle; rintro _ rfl
  refine zlc rf (asInt64 R1 2 _ _ _ _ _) ?_
  rintro v R' As' ⟨rfl, hle', rfl⟩
  refine HL_eq (show Value.int .i64 (IntKind.i64.wrap 2) = .int .i64 2 from congrArg (Value.int .i64) (by decide)) ?_
  refine HL_nil ?_
  exact HQ_dq1 hle' rfl .refl
 intro R1 hle; rintro _ rfl _ rfl _ rfl
 have hle3 := hle
 refine zlc rf (appendInt2 (g := b4) (cap := 20) (by omega) (by simp) E R1 _) ?_
 rintro v R₄ As1 ⟨hle4, rfl, rfl⟩
 refine sq3 ?_
 refine HC_seal .here (fun R₅ hle5 hb4 => ?_)
 obtain ⟨p, o, e, rfl, hp, hown⟩ := hB
 refine HC_perm _ (perm12 _ _ _ _) ?_
 refine sq3 ?_
 refine zlc rf (bldWrite (n := 1) (s := [50]) (by omega) rfl ⟨p, o, e, rfl, hp, hown⟩ (by omega) E R₅ ⟨_, _, _, hb4, by rfl⟩) ?_
 rintro v R₆ As2 ⟨hle6, rfl, p', o', e', rfl, hp', hown'⟩
 refine sq6 ?_
 exact fun w hs => ⟨_, _, _, rfl, hs.drop (.there (.there .here)), zlt hle2 (zlt hle3 (zlt hle4 (zlt hle5 hle6))), p', o', e', rfl, hp', hown'⟩
end Go.Sx

/-! Bytes in 64 characters. Printed by a program of ours (wip/tools/gM64.py) out of the steps of the code. -/
namespace Go.Sx
open Go Go.Proofs Go.RowKit
set_option maxHeartbeats 8000000

def b64B : ByteArray := ⟨#[65, 66, 67, 68, 69, 70, 71, 72, 73, 74, 75, 76, 77, 78, 79, 80, 81, 82, 83, 84, 85, 86, 87, 88, 89, 90, 97, 98, 99, 100, 101, 102, 103, 104, 105, 106, 107, 108, 109, 110, 111, 112, 113, 114, 115, 116, 117, 118, 119, 120, 121, 122, 48, 49, 50, 51, 52, 53, 54, 55, 56, 57, 43, 47]⟩
def b64C (k : Nat) : UInt8 := (b64B[k]?).getD 0
theorem b64_get : ∀ k, k < 64 → b64B[k]? = some (b64C k) := by decide +kernel
theorem b64_mid : ∀ k, k < 64 → ((kb b64B).drop k).take (k + 1 - k) = [b64C k] := by decide +kernel
def e64 (n sh : Nat) : UInt8 := b64C (n / 2 ^ sh &&& 63)
theorem and63_lt (n : Nat) : n &&& 63 < 64 := Nat.lt_succ_of_le Nat.and_le_right
def wd : List UInt8 → Nat
 | [] => 0
 | [a] => a.toNat * 65536
 | [a, b] => a.toNat * 65536 ||| b.toNat * 256
 | a :: b :: c :: _ => a.toNat * 65536 ||| b.toNat * 256 ||| c.toNat
theorem wd_lt (l : List UInt8) : wd l < 16777216 := by
 match l with
 | [] => decide
 | [a] => have := a.toNat_lt; show a.toNat * 65536 < _; omega
 | [a, b] =>
  have := a.toNat_lt
  have := b.toNat_lt
  exact Nat.or_lt_two_pow (n := 24) (by omega) (by omega)
 | a :: b :: c :: _ =>
  have := a.toNat_lt
  have := b.toNat_lt
  have := c.toNat_lt
  exact Nat.or_lt_two_pow (n := 24) (Nat.or_lt_two_pow (n := 24) (by omega) (by omega)) (by omega)
def c4 (l : List UInt8) (i : Nat) : UInt8 := if i ≤ l.length then e64 (wd l) (18 - 6 * i) else 61
def bL : List UInt8 → List UInt8
 | [] => []
 | [a] => [c4 [a] 0, c4 [a] 1, 61, 61]
 | [a, b] => [c4 [a, b] 0, c4 [a, b] 1, c4 [a, b] 2, 61]
 | a :: b :: c :: t => c4 [a, b, c] 0 :: c4 [a, b, c] 1 :: c4 [a, b, c] 2 :: c4 [a, b, c] 3 :: bL t
theorem bL_len : ∀ l, (bL l).length ≤ 4 * l.length
 | [] => by simp [bL]
 | [a] => by simp [bL]
 | [a, b] => by simp [bL]
 | a :: b :: c :: t => by
  have := bL_len t
  simp only [bL, List.length_cons]
  omega
theorem bL_step {l : List UInt8} (h : l ≠ []) : bL l = (List.range 4).map (c4 l) ++ bL (l.drop (min 3 l.length)) := by
 match l, h with
 | [a], _ => rfl
 | [a, b], _ => rfl
 | a :: b :: c :: t, _ =>
  have e : ∀ i, i < 4 → c4 (a :: b :: c :: t) i = c4 [a, b, c] i := fun i hi => by
   unfold c4
   rw [if_pos (by simp; omega), if_pos (by simp; omega)]
   rfl
  rw [show min 3 (a :: b :: c :: t).length = 3 by simp]
  simp only [List.range, List.range.loop, List.map_cons, List.map_nil, e 0 (by omega), e 1 (by omega), e 2 (by omega), e 3 (by omega)]
  rfl
theorem drop_at {s : ByteArray} {i j : Nat} {L : List UInt8} {a : UInt8} (h : (kb s).drop i = L) (hj : L[j]? = some a) : s[i + j]? = some a := by
 have h1 : (kb s)[i + j]? = some a := by rw [← List.getElem?_drop, h]; exact hj
 obtain ⟨h2, h3⟩ := List.getElem?_eq_some_iff.1 h1
 rw [kb_get (s := s) h2, h3]
theorem b64_220 {R : Frag} {bb : Nat} {bs : List UInt8} {s : ByteArray} {As As0 : List Ent} (hB : Bld bb bs As As0) (hl : bs.length ≤ 5000000000) (hs0 : s.size ≤ 1000000) (E : Env) :
  Tri Tryz.prog 220 [.pointer (some ⟨bb, 0, none⟩), .string s] E R As (fun _ R' As' => Frag.le R R' ∧ Bld bb (bs ++ bL (kb s)) As' As0) := by
 refine ten Tryz.func220 ?_
 refine sq5 ?_
 refine HL_addN (c := s.size + 2) rf rf rf (by omega) (by omega) ?_
 refine HL_quoK (a := s.size + 2) (b := 3) rf rf rf (by omega) (by first | (show _ < (256 : Nat); omega) | (show _ < (2147483648 : Nat); omega) | (show _ < (4294967296 : Nat); omega) | (show _ < (9223372036854775808 : Nat); omega) | (show _ < (18446744073709551616 : Nat); omega)) ?_
 refine HL_mulK (a := (s.size + 2) / 3) (b := 4) rf rf rf rfl (by first | (show _ < (256 : Nat); omega) | (show _ < (2147483648 : Nat); omega) | (show _ < (4294967296 : Nat); omega) | (show _ < (9223372036854775808 : Nat); omega) | (show _ < (18446744073709551616 : Nat); omega)) ?_
 refine zlc rf (bldGrowG hB (by omega) (by omega) E _) ?_
 rintro v R₀ A0 ⟨hle0, hB0⟩
 refine sq9 ?_
 refine hcl (fun F' R' As' m => ∃ (i : Nat) (Dn : List UInt8), i ≤ s.size ∧ Dn ++ bL ((kb s).drop i) = bL (kb s) ∧ Dn.length ≤ 4 * i ∧ Bld bb (bs ++ Dn) As' As0 ∧ s.size - i = m ∧ Frag.le R R' ∧ F' = [(0, .pointer (some ⟨bb, 0, none⟩)), (1, .string s), (4, .int .i64 ((i : Nat)))]) A0 s.size ⟨0, [], by omega, rfl, by simp, by simpa using hB0, by omega, hle0, rfl⟩ ?_
 rintro F' R1 A1 m ⟨i, Dn, hi, hDn, hDl, hB1, rfl, hle1, rfl⟩
 have hkl : (kb s).length = s.size := rfl
 refine sq4 ?_
 refine HL_addN (c := i + 2) rf rf rf (by omega) (by omega) ?_
 refine sq5 ?_
 refine HC_cond rf (fun ht19 => ?_) (fun ht19 => ?_)
 ·have hlt : i + 2 < s.size := by have := of_decide_eq_true ht19; omega
  obtain ⟨a, b, c, t, hd⟩ : ∃ a b c t, (kb s).drop i = a :: b :: c :: t := by
   match h : (kb s).drop i, (show 2 < ((kb s).drop i).length by simp; omega) with
   | a :: b :: c :: t, _ => exact ⟨a, b, c, t, rfl⟩
  have hw : (a.toNat * 65536 ||| b.toNat * 256 ||| c.toNat) < 16777216 := wd_lt [a, b, c]
  refine sq5 ?_
  refine hdh 18 1 (fun jj R v => match jj with | 0 => v = .string s | 1 => v = .int .i64 ((i : Nat) : Int) | 2 => v = .int .u8 (a.toNat : Int) | 3 => v = .int .u32 ((a.toNat : Nat) : Int) | 4 => v = .int .u32 ((a.toNat * 65536 : Nat) : Int) | 5 => v = .string s | 6 => v = .int .i64 ((i : Nat) : Int) | 7 => v = .int .i64 ((i + 1 : Nat) : Int) | 8 => v = .int .u8 (b.toNat : Int) | 9 => v = .int .u32 ((b.toNat : Nat) : Int) | 10 => v = .int .u32 ((b.toNat * 256 : Nat) : Int) | 11 => v = .int .u32 ((a.toNat * 65536 ||| b.toNat * 256 : Nat) : Int) | 12 => v = .string s | 13 => v = .int .i64 ((i : Nat) : Int) | 14 => v = .int .i64 ((i + 2 : Nat) : Int) | 15 => v = .int .u8 (c.toNat : Int) | 16 => v = .int .u32 ((c.toNat : Nat) : Int) | 17 => v = .int .u32 ((a.toNat * 65536 ||| b.toNat * 256 ||| c.toNat : Nat) : Int) | _ => True) [(0, []), (1, []), (2, [(0, 22), (1, 23)]), (3, [(2, 24)]), (4, [(3, 25)]), (5, []), (6, []), (7, [(6, 28)]), (8, [(5, 27), (7, 29)]), (9, [(8, 30)]), (10, [(9, 31)]), (11, [(4, 26), (10, 32)]), (12, []), (13, []), (14, [(13, 35)]), (15, [(12, 34), (14, 36)]), (16, [(15, 37)]), (17, [(11, 33), (16, 38)])] [(0, 22), (1, 23), (2, 24), (3, 25), (4, 26), (5, 27), (6, 28), (7, 29), (8, 30), (9, 31), (10, 32), (11, 33), (12, 34), (13, 35), (14, 36), (15, 37), (16, 38), (17, 39)] ?_ ?_ ?_
  ·exact fun _ _ _ _ _ h => h
  ·refine ⟨dm, dm, ?_, ?_, ?_, dm, dm, ?_, ?_, ?_, ?_, ?_, dm, dm, ?_, ?_, ?_, ?_, trivial⟩
   ·intro R1 G hle; rintro _ rfl _ rfl
    refine HL_indexS rf Tryz.underlying9 rf rf (i := i) rfl (drop_at (j := 0) hd rf) dqn
   ·intro R1 G hle; rintro _ rfl
    refine HL_convN (a := a.toNat) rf ⟨_, Tryz.underlying5⟩ Tryz.underlying211 rf (by have := a.toNat_lt; show _ < (4294967296 : Nat); omega) dqn
   ·intro R1 G hle; rintro _ rfl
    refine HL_shlN (a := a.toNat) (n := 16) (c := a.toNat * 65536) rf rf rf (by decide) rf (by have := a.toNat_lt; show _ < (4294967296 : Nat); omega) dqn
   ·intro R1 G hle; rintro _ rfl
    refine HL_addN (c := i + 1) rf rf rf (by omega) (by omega) dqn
   ·intro R1 G hle; rintro _ rfl _ rfl
    refine HL_indexS rf Tryz.underlying9 rf rf (i := i + 1) rfl (drop_at hd rf) dqn
   ·intro R1 G hle; rintro _ rfl
    refine HL_convN (a := b.toNat) rf ⟨_, Tryz.underlying5⟩ Tryz.underlying211 rf (by have := b.toNat_lt; show _ < (4294967296 : Nat); omega) dqn
   ·intro R1 G hle; rintro _ rfl
    refine HL_shlN (a := b.toNat) (n := 8) (c := b.toNat * 256) rf rf rf (by decide) rf (by have := b.toNat_lt; show _ < (4294967296 : Nat); omega) dqn
   ·intro R1 G hle; rintro _ rfl _ rfl
    refine HL_orN (a := a.toNat * 65536) (b := b.toNat * 256) rf rf rf (by have := a.toNat_lt; show _ < (4294967296 : Nat); omega) (by have := b.toNat_lt; show _ < (4294967296 : Nat); omega) dqn
   ·intro R1 G hle; rintro _ rfl
    refine HL_addN (c := i + 2) rf rf rf (by omega) (by omega) dqn
   ·intro R1 G hle; rintro _ rfl _ rfl
    refine HL_indexS rf Tryz.underlying9 rf rf (i := i + 2) rfl (drop_at hd rf) dqn
   ·intro R1 G hle; rintro _ rfl
    refine HL_convN (a := c.toNat) rf ⟨_, Tryz.underlying5⟩ Tryz.underlying211 rf (by have := c.toNat_lt; show _ < (4294967296 : Nat); omega) dqn
   intro R1 G hle; rintro _ rfl _ rfl
   refine HL_orN (a := a.toNat * 65536 ||| b.toNat * 256) (b := c.toNat) rf rf rf (Nat.lt_of_lt_of_le (wd_lt [a, b]) (by decide)) (by have := c.toNat_lt; show _ < (4294967296 : Nat); omega) dqn
  intro R1 hle; iterate 18 rintro _ rfl
  have hled := hle
  refine HL_assign rf rf ?_
  refine sq6 ?_
  refine HL_shrN (a := (a.toNat * 65536 ||| b.toNat * 256 ||| c.toNat)) (n := 18) rf rf rf (by decide) ?_
  refine HL_andN (a := (a.toNat * 65536 ||| b.toNat * 256 ||| c.toNat) / 2 ^ 18) (b := 63) rf rf rf (Nat.lt_of_le_of_lt (Nat.div_le_self _ _) (Nat.lt_of_lt_of_le (hw : (a.toNat * 65536 ||| b.toNat * 256 ||| c.toNat) < 16777216) (by decide))) (by decide) ?_
  refine HL_indexSk (s := b64B) rf Tryz.underlying9 rf rf (i := (a.toNat * 65536 ||| b.toNat * 256 ||| c.toNat) / 2 ^ 18 &&& 63) rfl (b64_get _ (and63_lt _)) ?_
  refine zlc rf (bldByte (c := c4 [a, b, c] 0) hB1 (by simp; omega) E _) ?_
  rintro v R2 A2 ⟨hle2, rfl, hB2⟩
  refine sq6 ?_
  refine HL_shrN (a := (a.toNat * 65536 ||| b.toNat * 256 ||| c.toNat)) (n := 12) rf rf rf (by decide) ?_
  refine HL_andN (a := (a.toNat * 65536 ||| b.toNat * 256 ||| c.toNat) / 2 ^ 12) (b := 63) rf rf rf (Nat.lt_of_le_of_lt (Nat.div_le_self _ _) (Nat.lt_of_lt_of_le (hw : (a.toNat * 65536 ||| b.toNat * 256 ||| c.toNat) < 16777216) (by decide))) (by decide) ?_
  refine HL_indexSk (s := b64B) rf Tryz.underlying9 rf rf (i := (a.toNat * 65536 ||| b.toNat * 256 ||| c.toNat) / 2 ^ 12 &&& 63) rfl (b64_get _ (and63_lt _)) ?_
  refine zlc rf (bldByte (c := c4 [a, b, c] 1) hB2 (by simp; omega) E _) ?_
  rintro v R3 A3 ⟨hle3, rfl, hB3⟩
  refine sq6 ?_
  refine HL_shrN (a := (a.toNat * 65536 ||| b.toNat * 256 ||| c.toNat)) (n := 6) rf rf rf (by decide) ?_
  refine HL_andN (a := (a.toNat * 65536 ||| b.toNat * 256 ||| c.toNat) / 2 ^ 6) (b := 63) rf rf rf (Nat.lt_of_le_of_lt (Nat.div_le_self _ _) (Nat.lt_of_lt_of_le (hw : (a.toNat * 65536 ||| b.toNat * 256 ||| c.toNat) < 16777216) (by decide))) (by decide) ?_
  refine HL_indexSk (s := b64B) rf Tryz.underlying9 rf rf (i := (a.toNat * 65536 ||| b.toNat * 256 ||| c.toNat) / 2 ^ 6 &&& 63) rfl (b64_get _ (and63_lt _)) ?_
  refine zlc rf (bldByte (c := c4 [a, b, c] 2) hB3 (by simp; omega) E _) ?_
  rintro v R4 A4 ⟨hle4, rfl, hB4⟩
  refine sq5 ?_
  refine HL_andN (a := (a.toNat * 65536 ||| b.toNat * 256 ||| c.toNat)) (b := 63) rf rf rf (Nat.lt_of_lt_of_le (hw : (a.toNat * 65536 ||| b.toNat * 256 ||| c.toNat) < 16777216) (by decide)) (by decide) ?_
  refine HL_indexSk (s := b64B) rf Tryz.underlying9 rf rf (i := (a.toNat * 65536 ||| b.toNat * 256 ||| c.toNat) &&& 63) rfl (b64_get _ (and63_lt _)) ?_
  rw [show b64C ((a.toNat * 65536 ||| b.toNat * 256 ||| c.toNat) &&& 63) = c4 [a, b, c] 3 by simp [c4, e64, wd]]
  refine zlc rf (bldByte (c := c4 [a, b, c] 3) hB4 (by simp; omega) E _) ?_
  rintro v R5 A5 ⟨hle5, rfl, hB5⟩
  refine sq5 ?_
  refine HL_addN (c := i + 3) rf rf rf (by omega) (by omega) ?_
  refine sq2 ?_
  refine hqr1 (s.size - (i + 3)) ⟨i + 3, Dn ++ [c4 [a, b, c] 0, c4 [a, b, c] 1, c4 [a, b, c] 2, c4 [a, b, c] 3], by omega, ?_, by simp; omega, by simpa using hB5, rfl, zlt hle1 (zlt hled (zlt hle2 (zlt hle3 (zlt hle4 hle5)))), rfl⟩
  rw [← hDn, hd, ← List.drop_drop, hd]
  simp [bL]
 have hge : ¬ i + 2 < s.size := by have := of_decide_eq_false ht19; omega
 refine sq10 ?_
 refine HL_subN (c := s.size - i) rf rf rf (by omega) (by omega) ?_
 refine sq6 ?_
 refine HL_boolE (b' := decide (s.size - i = 1)) (by rw [Bool.eq_iff_iff]; simp; omega) ?_
 refine sq3 ?_
 refine HC_cond rf (fun ht67 => ?_) (fun ht67 => ?_)
 ·have h1 := of_decide_eq_true ht67
  obtain ⟨a, hd⟩ : ∃ a, (kb s).drop i = [a] := by
   match h : (kb s).drop i, (show ((kb s).drop i).length = 1 by simp; omega) with
   | [a], _ => exact ⟨a, rfl⟩
  have hw : a.toNat * 65536 < 16777216 := wd_lt [a]
  refine sq4 ?_
  refine HL_indexS rf Tryz.underlying9 rf rf (i := i) rfl (drop_at (j := 0) hd rf) ?_
  refine HL_convN (a := a.toNat) rf ⟨_, Tryz.underlying5⟩ Tryz.underlying211 rf (by have := a.toNat_lt; show _ < (4294967296 : Nat); omega) ?_
  refine HL_shlN (a := a.toNat) (n := 16) (c := a.toNat * 65536) rf rf rf (by decide) rf (by have := a.toNat_lt; show _ < (4294967296 : Nat); omega) ?_
  refine sq7 ?_
  refine HL_shrN (a := a.toNat * 65536) (n := 18) rf rf rf (by decide) ?_
  refine HL_andN (a := a.toNat * 65536 / 2 ^ 18) (b := 63) rf rf rf (Nat.lt_of_le_of_lt (Nat.div_le_self _ _) (Nat.lt_of_lt_of_le (hw : a.toNat * 65536 < 16777216) (by decide))) (by decide) ?_
  refine HL_indexSk (s := b64B) rf Tryz.underlying9 rf rf (i := a.toNat * 65536 / 2 ^ 18 &&& 63) rfl (b64_get _ (and63_lt _)) ?_
  refine zlc rf (bldByte (c := c4 [a] 0) hB1 (by simp; omega) E _) ?_
  rintro v R2 A2 ⟨hle2, rfl, hB2⟩
  refine sq6 ?_
  refine HL_shrN (a := a.toNat * 65536) (n := 12) rf rf rf (by decide) ?_
  refine HL_andN (a := a.toNat * 65536 / 2 ^ 12) (b := 63) rf rf rf (Nat.lt_of_le_of_lt (Nat.div_le_self _ _) (Nat.lt_of_lt_of_le (hw : a.toNat * 65536 < 16777216) (by decide))) (by decide) ?_
  refine HL_indexSk (s := b64B) rf Tryz.underlying9 rf rf (i := a.toNat * 65536 / 2 ^ 12 &&& 63) rfl (b64_get _ (and63_lt _)) ?_
  refine zlc rf (bldByte (c := c4 [a] 1) hB2 (by simp; omega) E _) ?_
  rintro v R3 A3 ⟨hle3, rfl, hB3⟩
  refine sq5 ?_
  refine zlc rf (bldByte (c := 61) hB3 (by simp; omega) E _) ?_
  rintro v R4 A4 ⟨hle4, rfl, hB4⟩
  refine sq4 ?_
  refine zlc rf (bldByte (c := 61) hB4 (by simp; omega) E _) ?_
  rintro v R5 A5 ⟨hle5, rfl, hB5⟩
  refine sq3 ?_
  exact fun w hs => ⟨_, _, _, rfl, hs, zlt hle1 (zlt hle2 (zlt hle3 (zlt hle4 hle5))), by rw [← hDn, hd]; simpa [bL] using hB5⟩
 have h1 := of_decide_eq_false ht67
 refine sq3 ?_
 refine HL_boolE (b' := decide (s.size - i = 2)) (by rw [Bool.eq_iff_iff]; simp; omega) ?_
 refine sq3 ?_
 refine HC_cond rf (fun ht90 => ?_) (fun ht90 => ?_)
 ·have h2 := of_decide_eq_true ht90
  obtain ⟨a, b, hd⟩ : ∃ a b, (kb s).drop i = [a, b] := by
   match h : (kb s).drop i, (show ((kb s).drop i).length = 2 by simp; omega) with
   | [a, b], _ => exact ⟨a, b, rfl⟩
  have hw : (a.toNat * 65536 ||| b.toNat * 256) < 16777216 := wd_lt [a, b]
  refine HC_seq ?_
  refine hdh 12 1 (fun jj R v => match jj with | 0 => v = .string s | 1 => v = .int .i64 ((i : Nat) : Int) | 2 => v = .int .u8 (a.toNat : Int) | 3 => v = .int .u32 ((a.toNat : Nat) : Int) | 4 => v = .int .u32 ((a.toNat * 65536 : Nat) : Int) | 5 => v = .string s | 6 => v = .int .i64 ((i : Nat) : Int) | 7 => v = .int .i64 ((i + 1 : Nat) : Int) | 8 => v = .int .u8 (b.toNat : Int) | 9 => v = .int .u32 ((b.toNat : Nat) : Int) | 10 => v = .int .u32 ((b.toNat * 256 : Nat) : Int) | 11 => v = .int .u32 ((a.toNat * 65536 ||| b.toNat * 256 : Nat) : Int) | _ => True) [(0, []), (1, []), (2, [(0, 92), (1, 93)]), (3, [(2, 94)]), (4, [(3, 95)]), (5, []), (6, []), (7, [(6, 98)]), (8, [(5, 97), (7, 99)]), (9, [(8, 100)]), (10, [(9, 101)]), (11, [(4, 96), (10, 102)])] [(0, 92), (1, 93), (2, 94), (3, 95), (4, 96), (5, 97), (6, 98), (7, 99), (8, 100), (9, 101), (10, 102), (11, 103)] ?_ ?_ ?_
  ·exact fun _ _ _ _ _ h => h
  ·refine ⟨dm, dm, ?_, ?_, ?_, dm, dm, ?_, ?_, ?_, ?_, ?_, trivial⟩
   ·intro R1 G hle; rintro _ rfl _ rfl
    refine HL_indexS rf Tryz.underlying9 rf rf (i := i) rfl (drop_at (j := 0) hd rf) dqn
   ·intro R1 G hle; rintro _ rfl
    refine HL_convN (a := a.toNat) rf ⟨_, Tryz.underlying5⟩ Tryz.underlying211 rf (by have := a.toNat_lt; show _ < (4294967296 : Nat); omega) dqn
   ·intro R1 G hle; rintro _ rfl
    refine HL_shlN (a := a.toNat) (n := 16) (c := a.toNat * 65536) rf rf rf (by decide) rf (by have := a.toNat_lt; show _ < (4294967296 : Nat); omega) dqn
   ·intro R1 G hle; rintro _ rfl
    refine HL_addN (c := i + 1) rf rf rf (by omega) (by omega) dqn
   ·intro R1 G hle; rintro _ rfl _ rfl
    refine HL_indexS rf Tryz.underlying9 rf rf (i := i + 1) rfl (drop_at hd rf) dqn
   ·intro R1 G hle; rintro _ rfl
    refine HL_convN (a := b.toNat) rf ⟨_, Tryz.underlying5⟩ Tryz.underlying211 rf (by have := b.toNat_lt; show _ < (4294967296 : Nat); omega) dqn
   ·intro R1 G hle; rintro _ rfl
    refine HL_shlN (a := b.toNat) (n := 8) (c := b.toNat * 256) rf rf rf (by decide) rf (by have := b.toNat_lt; show _ < (4294967296 : Nat); omega) dqn
   intro R1 G hle; rintro _ rfl _ rfl
   refine HL_orN (a := a.toNat * 65536) (b := b.toNat * 256) rf rf rf (by have := a.toNat_lt; show _ < (4294967296 : Nat); omega) (by have := b.toNat_lt; show _ < (4294967296 : Nat); omega) dqn
  intro R1 hle; iterate 12 rintro _ rfl
  have hled := hle
  refine HL_assign rf rf ?_
  refine sq6 ?_
  refine HL_shrN (a := (a.toNat * 65536 ||| b.toNat * 256)) (n := 18) rf rf rf (by decide) ?_
  refine HL_andN (a := (a.toNat * 65536 ||| b.toNat * 256) / 2 ^ 18) (b := 63) rf rf rf (Nat.lt_of_le_of_lt (Nat.div_le_self _ _) (Nat.lt_of_lt_of_le (hw : (a.toNat * 65536 ||| b.toNat * 256) < 16777216) (by decide))) (by decide) ?_
  refine HL_indexSk (s := b64B) rf Tryz.underlying9 rf rf (i := (a.toNat * 65536 ||| b.toNat * 256) / 2 ^ 18 &&& 63) rfl (b64_get _ (and63_lt _)) ?_
  refine zlc rf (bldByte (c := c4 [a, b] 0) hB1 (by simp; omega) E _) ?_
  rintro v R2 A2 ⟨hle2, rfl, hB2⟩
  refine sq6 ?_
  refine HL_shrN (a := (a.toNat * 65536 ||| b.toNat * 256)) (n := 12) rf rf rf (by decide) ?_
  refine HL_andN (a := (a.toNat * 65536 ||| b.toNat * 256) / 2 ^ 12) (b := 63) rf rf rf (Nat.lt_of_le_of_lt (Nat.div_le_self _ _) (Nat.lt_of_lt_of_le (hw : (a.toNat * 65536 ||| b.toNat * 256) < 16777216) (by decide))) (by decide) ?_
  refine HL_indexSk (s := b64B) rf Tryz.underlying9 rf rf (i := (a.toNat * 65536 ||| b.toNat * 256) / 2 ^ 12 &&& 63) rfl (b64_get _ (and63_lt _)) ?_
  refine zlc rf (bldByte (c := c4 [a, b] 1) hB2 (by simp; omega) E _) ?_
  rintro v R3 A3 ⟨hle3, rfl, hB3⟩
  refine sq6 ?_
  refine HL_shrN (a := (a.toNat * 65536 ||| b.toNat * 256)) (n := 6) rf rf rf (by decide) ?_
  refine HL_andN (a := (a.toNat * 65536 ||| b.toNat * 256) / 2 ^ 6) (b := 63) rf rf rf (Nat.lt_of_le_of_lt (Nat.div_le_self _ _) (Nat.lt_of_lt_of_le (hw : (a.toNat * 65536 ||| b.toNat * 256) < 16777216) (by decide))) (by decide) ?_
  refine HL_indexSk (s := b64B) rf Tryz.underlying9 rf rf (i := (a.toNat * 65536 ||| b.toNat * 256) / 2 ^ 6 &&& 63) rfl (b64_get _ (and63_lt _)) ?_
  refine zlc rf (bldByte (c := c4 [a, b] 2) hB3 (by simp; omega) E _) ?_
  rintro v R4 A4 ⟨hle4, rfl, hB4⟩
  refine sq4 ?_
  refine zlc rf (bldByte (c := 61) hB4 (by simp; omega) E _) ?_
  rintro v R5 A5 ⟨hle5, rfl, hB5⟩
  refine sq3 ?_
  exact fun w hs => ⟨_, _, _, rfl, hs, zlt hle1 (zlt hled (zlt hle2 (zlt hle3 (zlt hle4 hle5)))), by rw [← hDn, hd]; simpa [bL] using hB5⟩
 have h2 := of_decide_eq_false ht90
 refine sq3 ?_
 have hd : (kb s).drop i = [] := List.eq_nil_of_length_eq_zero (by simp; omega)
 exact fun w hs => ⟨_, _, _, rfl, hs, hle1, by rw [← hDn, hd]; simpa [bL] using hB1⟩
theorem b64_92 {R : Frag} {s : ByteArray} (hs0 : s.size ≤ 1000000) : Pure Tryz.prog 92 [.string s] R (fun _ r => ∃ q, r = .string q ∧ kb q = bL (kb s)) := by
 intro E As
 refine ten Tryz.func92 ?_
 refine sq12 ?_
 refine hcl (fun F' R' As' m => ∃ (u o : ByteArray), kb o ++ bL (kb u) = bL (kb s) ∧ u.size ≤ s.size ∧ o.size + 4 * u.size ≤ 4 * s.size ∧ u.size = m ∧ F' = [(0, .string u), (3, .string o)] ∧ As' = As ∧ Frag.le R R') As s.size ⟨s, ⟨#[]⟩, rfl, Nat.le_refl _, Nat.le_of_eq (Nat.zero_add _), rfl, rfl, rfl, Frag.le_refl _⟩ ?_
 rintro F' R1 As' m ⟨u, o, hou, hus, hos, rfl, rfl, hAs, hle1⟩
 rw [hAs]
 clear hAs As'
 have hul : (kb u).length = u.size := rfl
 refine sq8 ?_
 refine HC_cond rf (fun ht8 => ?_) (fun ht8 => ?_)
 ·have hlt : 0 < u.size := by have := of_decide_eq_true ht8; omega
  obtain ⟨x0, xt, hu⟩ : ∃ x0 xt, kb u = x0 :: xt := by
   match h : kb u, (show 0 < (kb u).length from hlt) with
   | a :: t, _ => exact ⟨a, t, rfl⟩
  refine HC_skip ?_
  refine sq6 ?_
  refine HL_indexS rf Tryz.underlying9 rf rf (i := 0) rfl (by have := drop_at (s := u) (i := 0) (j := 0) (a := x0) rfl (by simp [hu]); simpa using this) ?_
  refine HL_convN (a := x0.toNat) rf ⟨_, Tryz.underlying5⟩ Tryz.underlying211 rf (by have := x0.toNat_lt; show _ < (4294967296 : Nat); omega) ?_
  refine HL_shlN (a := x0.toNat) (n := 16) (c := x0.toNat * 65536) rf rf rf (by decide) rf (by have := x0.toNat_lt; show _ < (4294967296 : Nat); omega) ?_
  refine sq3 ?_
  refine HC_seq_cut (fun F' R' As' => F' = [(0, .string u), (3, .string o), (4, .int .u32 (((wd ((kb u).take 2)) : Nat) : Int))] ∧ As' = As ∧ R' = R1) ?_ ?_
  ·refine sq7 ?_
   refine HC_cond rf (fun ht20 => ?_) (fun ht20 => ?_)
   ·have h2 : 1 < (kb u).length := by have := of_decide_eq_true ht20; omega
    obtain ⟨x1, xt, rfl⟩ : ∃ x1 t, xt = x1 :: t := by
     match xt, (show 0 < xt.length by rw [hu, List.length_cons] at h2; omega) with
     | a :: t, _ => exact ⟨a, t, rfl⟩
    refine HC_region ?_
    refine sq2 ?_
    refine HL_indexS rf Tryz.underlying9 rf rf (i := 1) rfl (by have := drop_at (s := u) (i := 0) (j := 1) (a := x1) rfl (by simp [hu]); simpa using this) ?_
    refine HL_convN (a := x1.toNat) rf ⟨_, Tryz.underlying5⟩ Tryz.underlying211 rf (by have := x1.toNat_lt; show _ < (4294967296 : Nat); omega) ?_
    refine HL_shlN (a := x1.toNat) (n := 8) (c := x1.toNat * 256) rf rf rf (by decide) rf (by have := x1.toNat_lt; show _ < (4294967296 : Nat); omega) ?_
    refine HL_orN (a := x0.toNat * 65536) (b := x1.toNat * 256) rf rf rf (by have := x0.toNat_lt; show _ < (4294967296 : Nat); omega) (by have := x1.toNat_lt; show _ < (4294967296 : Nat); omega) ?_
    refine sq2 ?_
    exact HQ_cut [(0, .string u), (3, .string o), (4, .int .u32 (((wd ((kb u).take 2)) : Nat) : Int))] _ (by rw [show wd ((kb u).take 2) = x0.toNat * 65536 ||| x1.toNat * 256 by rw [hu]; rfl]; exact ⟨rfl, rfl, rfl, trivial⟩) (.refl _) ⟨rfl, rfl, rfl⟩
   have h2 : ¬ 1 < (kb u).length := by have := of_decide_eq_false ht20; omega
   refine HC_skip ?_
   exact HQ_cut [(0, .string u), (3, .string o), (4, .int .u32 (((wd ((kb u).take 2)) : Nat) : Int))] _ (by rw [show wd ((kb u).take 2) = x0.toNat * 65536 by rw [List.take_of_length_le (by omega), hu, List.eq_nil_of_length_eq_zero (l := xt) (by rw [hu, List.length_cons] at h2; omega)]; rfl]; exact ⟨rfl, rfl, rfl, trivial⟩) (.refl _) ⟨rfl, rfl, rfl⟩
  rintro F' R' As' ⟨rfl, hAs, hR⟩
  rw [hAs, hR]
  clear hAs hR As' R'
  refine HC_seq_cut (fun F' R' As' => F' = [(0, .string u), (3, .string o), (4, .int .u32 ((wd (kb u) : Nat) : Int))] ∧ As' = As ∧ R' = R1) ?_ ?_
  ·refine sq7 ?_
   refine HC_cond rf (fun ht29 => ?_) (fun ht29 => ?_)
   ·have h3 : 2 < (kb u).length := by have := of_decide_eq_true ht29; omega
    obtain ⟨x1, x2, xt, rfl⟩ : ∃ x1 x2 t, xt = x1 :: x2 :: t := by
     match xt, (show 1 < xt.length by rw [hu, List.length_cons] at h3; omega) with
     | a :: b :: t, _ => exact ⟨a, b, t, rfl⟩
    rw [show wd ((kb u).take 2) = x0.toNat * 65536 ||| x1.toNat * 256 by rw [hu]; rfl]
    refine sq3 ?_
    refine HL_indexS rf Tryz.underlying9 rf rf (i := 2) rfl (by have := drop_at (s := u) (i := 0) (j := 2) (a := x2) rfl (by simp [hu]); simpa using this) ?_
    refine HL_convN (a := x2.toNat) rf ⟨_, Tryz.underlying5⟩ Tryz.underlying211 rf (by have := x2.toNat_lt; show _ < (4294967296 : Nat); omega) ?_
    refine HL_orN (a := x0.toNat * 65536 ||| x1.toNat * 256) (b := x2.toNat) rf rf rf (Nat.lt_of_lt_of_le (wd_lt [x0, x1]) (by decide)) (by have := x2.toNat_lt; show _ < (4294967296 : Nat); omega) ?_
    refine sq2 ?_
    exact HQ_cut [(0, .string u), (3, .string o), (4, .int .u32 ((wd (kb u) : Nat) : Int))] _ (by rw [hu]; exact ⟨rfl, rfl, rfl, trivial⟩) (.refl _) ⟨rfl, rfl, rfl⟩
   have h3 : ¬ 2 < (kb u).length := by have := of_decide_eq_false ht29; omega
   refine HC_skip ?_
   have e : (wd ((kb u).take 2)) = wd (kb u) := by rw [List.take_of_length_le (by omega)]
   rw [e]
   refine hqc1 ⟨rfl, rfl, rfl⟩
  rintro F' R' As' ⟨rfl, hAs, hR⟩
  rw [hAs, hR]
  clear hAs hR As' R'
  refine sq6 ?_
  refine hcl (fun F' R' As' m => ∃ (i : Nat) (o4 : ByteArray), i ≤ 4 ∧ kb o4 = kb o ++ (List.range i).map (c4 (kb u)) ∧ 4 - i = m ∧ F' = [(0, .string u), (3, .string o4), (4, .int .u32 ((wd (kb u) : Nat) : Int)), (35, .int .i64 ((i : Nat)))] ∧ As' = As ∧ Frag.le R R') As 4 ⟨0, o, by omega, by simp, rfl, rfl, rfl, hle1⟩ ?_
  rintro F' R4 As' m ⟨i, o4, hi, ho4, rfl, rfl, hAs, hle4⟩
  rw [hAs]
  clear hAs As'
  refine sq6 ?_
  refine HC_cond rf (fun ht36 => ?_) (fun ht36 => ?_)
  ·have hi4 : i < 4 := by have := of_decide_eq_true ht36; omega
   refine sq16 ?_
   refine sq2 ?_
   refine HC_cond rf (fun ht41 => ?_) (fun ht41 => ?_)
   ·have hile : i ≤ (kb u).length := by have := of_decide_eq_true ht41; omega
    refine hdh 15 6 (fun jj R v => match jj with | 0 => v = .string o4 | 1 => v = .int .u32 ((wd (kb u) : Nat) : Int) | 2 => v = .int .i64 ((i : Nat) : Int) | 3 => v = .int .i64 ((6 * i : Nat) : Int) | 4 => v = .int .i64 ((18 - 6 * i : Nat) : Int) | 5 => v = .int .u32 ((wd (kb u) / 2 ^ (18 - 6 * i) : Nat) : Int) | 6 => v = .int .u32 ((wd (kb u) / 2 ^ (18 - 6 * i) &&& 63 : Nat) : Int) | 7 => v = .int .u32 ((wd (kb u) : Nat) : Int) | 8 => v = .int .i64 ((i : Nat) : Int) | 9 => v = .int .i64 ((6 * i : Nat) : Int) | 10 => v = .int .i64 ((18 - 6 * i : Nat) : Int) | 11 => v = .int .u32 ((wd (kb u) / 2 ^ (18 - 6 * i) : Nat) : Int) | 12 => v = .int .u32 ((wd (kb u) / 2 ^ (18 - 6 * i) &&& 63 : Nat) : Int) | 13 => v = .int .u32 (((wd (kb u) / 2 ^ (18 - 6 * i) &&& 63) + 1 : Nat) : Int) | 14 => v = .string (b64B.extract (wd (kb u) / 2 ^ (18 - 6 * i) &&& 63) ((wd (kb u) / 2 ^ (18 - 6 * i) &&& 63) + 1)) | _ => True) [(0, []), (1, []), (2, []), (3, [(2, 44)]), (4, [(3, 45)]), (5, [(1, 43), (4, 46)]), (6, [(5, 47)]), (7, []), (8, []), (9, [(8, 50)]), (10, [(9, 51)]), (11, [(7, 49), (10, 52)]), (12, [(11, 53)]), (13, [(12, 54)]), (14, [(6, 48), (13, 55)])] [(0, 42), (1, 43), (2, 44), (3, 45), (4, 46), (5, 47), (6, 48), (7, 49), (8, 50), (9, 51), (10, 52), (11, 53), (12, 54), (13, 55), (14, 56)] ?_ ?_ ?_
    ·exact fun _ _ _ _ _ h => h
    ·refine ⟨dm, dm, dm, ?_, ?_, ?_, ?_, dm, dm, ?_, ?_, ?_, ?_, ?_, ?_, trivial⟩
     ·intro R1 G hle; rintro _ rfl
      refine HL_mulN (c := 6 * i) rf rf rf (by omega) (by omega) dqn
     ·intro R1 G hle; rintro _ rfl
      refine HL_subN (c := 18 - 6 * i) rf rf rf (by omega) (by omega) dqn
     ·intro R1 G hle; rintro _ rfl _ rfl
      refine HL_shrN (a := wd (kb u)) (n := 18 - 6 * i) rf rf rf (by show _ ≤ 32; omega) dqn
     ·intro R1 G hle; rintro _ rfl
      refine HL_andN (a := wd (kb u) / 2 ^ (18 - 6 * i)) (b := 63) rf rf rf (Nat.lt_of_le_of_lt (Nat.div_le_self _ _) (Nat.lt_of_lt_of_le (wd_lt (kb u)) (by decide))) (by decide) dqn
     ·intro R1 G hle; rintro _ rfl
      refine HL_mulN (c := 6 * i) rf rf rf (by omega) (by omega) dqn
     ·intro R1 G hle; rintro _ rfl
      refine HL_subN (c := 18 - 6 * i) rf rf rf (by omega) (by omega) dqn
     ·intro R1 G hle; rintro _ rfl _ rfl
      refine HL_shrN (a := wd (kb u)) (n := 18 - 6 * i) rf rf rf (by show _ ≤ 32; omega) dqn
     ·intro R1 G hle; rintro _ rfl
      refine HL_andN (a := wd (kb u) / 2 ^ (18 - 6 * i)) (b := 63) rf rf rf (Nat.lt_of_le_of_lt (Nat.div_le_self _ _) (Nat.lt_of_lt_of_le (wd_lt (kb u)) (by decide))) (by decide) dqn
     ·intro R1 G hle; rintro _ rfl
      refine HL_addK (a := (wd (kb u) / 2 ^ (18 - 6 * i) &&& 63)) (b := 1) rf rf rf rfl (by have := and63_lt (wd (kb u) / 2 ^ (18 - 6 * i)); show _ < (4294967296 : Nat); omega) dqn
     intro R1 G hle; rintro _ rfl _ rfl
     refine HL_sliceS (s := b64B) rf Tryz.underlying9 rf rf rf (lo := (wd (kb u) / 2 ^ (18 - 6 * i) &&& 63)) (hi := (wd (kb u) / 2 ^ (18 - 6 * i) &&& 63) + 1) rfl rfl (by omega) (by have := and63_lt (wd (kb u) / 2 ^ (18 - 6 * i)); show _ ≤ 64; omega) dqn
    intro R1 hle; iterate 15 rintro _ rfl
    have hle5 := hle
    have ho4l : o4.size = o.size + i := by have e := congrArg List.length ho4; simpa [kbl] using e
    refine HL_addS rf rf rf (by have := and63_lt (wd (kb u) / 2 ^ (18 - 6 * i)); simp [ByteArray.size_extract]; omega) ?_
    refine sq5 ?_
    refine HL_addN (c := i + 1) rf rf rf (by omega) (by omega) ?_
    refine sq2 ?_
    refine HQ_loop [(0, .string u), (3, .string (o4 ++ b64B.extract (wd (kb u) / 2 ^ (18 - 6 * i) &&& 63) ((wd (kb u) / 2 ^ (18 - 6 * i) &&& 63) + 1))), (4, .int .u32 ((wd (kb u) : Nat) : Int)), (35, .int .i64 (((i + 1 : Nat) : Int)))] _ (4 - (i + 1)) (by omega) ⟨rfl, rfl, rfl, rfl, trivial⟩ (.refl _) ⟨i + 1, _, by omega, ?_, rfl, rfl, rfl, zlt hle4 hle5⟩
    rw [kb_app, ho4, kb_mid, b64_mid _ (and63_lt _), List.range_succ, List.map_append]
    simp [c4, e64, hile]
   have hile : ¬ i ≤ (kb u).length := by have := of_decide_eq_false ht41; omega
   refine sq2 ?_
   have ho4l : o4.size = o.size + i := by have e := congrArg List.length ho4; simpa [kbl] using e
   refine HL_addS rf rf rf (by show _ + 1 ≤ _; omega) ?_
   refine sq5 ?_
   refine HL_addN (c := i + 1) rf rf rf (by omega) (by omega) ?_
   refine sq2 ?_
   refine HQ_loop [(0, .string u), (3, .string (o4 ++ ⟨#[61]⟩)), (4, .int .u32 ((wd (kb u) : Nat) : Int)), (35, .int .i64 (((i + 1 : Nat) : Int)))] _ (4 - (i + 1)) (by omega) ⟨rfl, rfl, rfl, rfl, trivial⟩ (.refl _) ⟨i + 1, _, by omega, ?_, rfl, rfl, rfl, hle4⟩
   rw [kb_app, ho4, List.range_succ, List.map_append]
   simp [c4, hile]
   rfl
  obtain rfl : i = 4 := by have := of_decide_eq_false ht36; omega
  refine sq10 ?_
  refine HL_min (z := ((min 3 u.size : Nat) : Int)) rf rf rf (by split <;> omega) ?_
  refine HL_sliceS_lo rf Tryz.underlying9 rf rf (lo := min 3 u.size) rfl (by omega) ?_
  refine sq2 ?_
  refine HQ_loop [(0, .string (u.extract (min 3 u.size) u.size)), (3, .string o4)] _ _ ?_ ⟨rfl, rfl, trivial⟩ (.refl _) ⟨_, o4, ?_, ?_, ?_, rfl, rfl, rfl, hle4⟩
  ·simp; omega
  ·rw [kb_from, ho4, ← hou, bL_step (l := kb u) (by rw [hu]; simp), hul]; simp
  ·simp; omega
  rw [show o4.size = o.size + 4 by have e := congrArg List.length ho4; simpa [kbl] using e]; simp; omega
 have hge : u.size = 0 := by have := of_decide_eq_false ht8; omega
 refine sq13 ?_
 exact zrp hle1 ⟨_, rfl, by rw [← hou, List.eq_nil_of_length_eq_zero (l := kb u) (by omega)]; simp [bL]⟩
end Go.Sx

/-! Numbers as text: scaling by powers of ten. Printed by a program of ours (wip/tools/gM57.py) out of the steps of the code. -/
namespace Go.Sx
open Go Go.Proofs Go.RowKit
set_option maxHeartbeats 8000000

def mulHi (x y : Int) : Int :=
 let k := IntKind.u64
 let x0 := zand .u64 x 4294967295
 let x1 := zshr .u64 x 32
 let y0 := zand .u64 y 4294967295
 let y1 := zshr .u64 y 32
 let t := k.wrap (k.wrap (x1 * y0) + zshr .u64 (k.wrap (x0 * y0)) 32)
 let w1 := k.wrap (zand .u64 t 4294967295 + k.wrap (x0 * y1))
 k.wrap (k.wrap (k.wrap (x1 * y1) + zshr .u64 t 32) + zshr .u64 w1 32)
def mulLo (x y : Int) : Int := IntKind.u64.wrap (x * y)
def b2i (b : Bool) : Int := bif b then 1 else 0
def usc (x ph pl s : Int) : Int :=
 let n := zand .i64 s 63
 bif zshl .u64 (zshr .u64 (mulHi x ph) n) n != mulHi x ph then zor .u64 (zshr .u64 (mulHi x ph) n) 1
 else zor .u64 (zshr .u64 (IntKind.u64.wrap (mulHi x ph - b2i (decide (mulLo x ph < mulHi x pl)))) n) (b2i (decide (IntKind.u64.wrap (mulLo x ph - mulHi x pl) > 1)))
def nudge (u z : Int) : Int := IntKind.u64.wrap (u + IntKind.u64.wrap z)
def uceil (u : Int) : Int := zshr .u64 (IntKind.u64.wrap (u + 3)) 2
def ufloor (u : Int) : Int := zshr .u64 (IntKind.u64.wrap (u + 0)) 2
def uround (u : Int) : Int := zshr .u64 (IntKind.u64.wrap (IntKind.u64.wrap (u + 1) + zand .u64 (zshr .u64 u 2) 1)) 2
theorem uceilU (u : Int) : U64 (uceil u) := shrU (wrapU _) _
theorem uroundU (u : Int) : U64 (uround u) := shrU (wrapU _) _
theorem zshr_ediv (k : IntKind) (a : Int) (n : Nat) (h : n ≤ k.bits) : zshr k a (n : Int) = a / 2 ^ n := by
 unfold zshr
 rw [show min (n : Int).toNat k.bits = n by simp; omega, Int.fdiv_eq_ediv_of_nonneg _ (Int.le_of_lt (Int.pow_pos (by omega)))]
def p10 : List Value := Go.Pinned.pow10Rows.flatMap fun x => [.int .u64 (x.1 : Int), .int .u64 (x.2 : Int)]
def p10H (i : Nat) : Int := ((Go.Pinned.pow10Rows[i]?.getD (0, 0)).1 : Int)
def p10L (i : Nat) : Int := ((Go.Pinned.pow10Rows[i]?.getD (0, 0)).2 : Int)
theorem p10_len : Go.Pinned.pow10Rows.length = 696 := by decide +kernel
def GlobF (R : Frag) : Prop := RdR R 9 0 1392 p10
theorem GlobF.mono {R R' : Frag} (h : GlobF R) (hle : Frag.le R R') : GlobF R' := RdR.mono hle h
theorem pairs_get {α β : Type} (f g : α → β) : ∀ (l : List α) (i : Nat) (h : i < l.length), (l.flatMap fun x => [f x, g x]).drop (i * 2) = f l[i] :: g l[i] :: (l.drop (i + 1)).flatMap fun x => [f x, g x]
 | [], i, h => by simp at h
 | a :: t, 0, h => by simp
 | a :: t, i + 1, h => by
  rw [List.flatMap_cons, show (i + 1) * 2 = i * 2 + 2 by omega]
  show List.drop (i * 2) (List.flatMap _ t) = _
  simpa using pairs_get f g t i (by simpa using h)
theorem pairs_len {α β : Type} (f g : α → β) : ∀ (l : List α), (l.flatMap fun x => [f x, g x]).length = l.length * 2
 | [] => rfl
 | a :: t => by rw [List.flatMap_cons, List.length_append, pairs_len f g t]; simp; omega
theorem p10_rd {R : Frag} (h : GlobF R) {i : Nat} (hi : i < 696) : RdR R 9 (i * 2) 1 [.int .u64 (p10H i)] ∧ RdR R 9 (i * 2 + 1) 1 [.int .u64 (p10L i)] := by
 have hl : p10.length = 1392 := by unfold p10; rw [pairs_len, p10_len]
 have hg := pairs_get (fun x : Nat × Nat => Value.int .u64 (x.1 : Int)) (fun x => .int .u64 (x.2 : Int)) Go.Pinned.pow10Rows i (by rw [p10_len]; exact hi)
 have e : Go.Pinned.pow10Rows[i]?.getD (0, 0) = Go.Pinned.pow10Rows[i]'(by rw [p10_len]; exact hi) := by rw [List.getElem?_eq_getElem]; rfl
 constructor
 ·have := RdR.part (k := i * 2) (m := 1) (us := [.int .u64 (p10H i)]) h (by
   rw [cut_eq]
   refine ⟨by rw [hl]; omega, ?_⟩
   unfold p10
   rw [hg]
   simp [p10H, e])
  simpa using this
 have := RdR.part (k := i * 2 + 1) (m := 1) (us := [.int .u64 (p10L i)]) h (by
  rw [cut_eq]
  refine ⟨by rw [hl]; omega, ?_⟩
  unfold p10
  rw [← List.drop_drop, hg]
  simp [p10L, e])
 simpa using this
theorem mul323 {R : Frag} {x y : Int} : Pure Tryz.prog 323 [.int .u64 x, .int .u64 y] R (fun _ r => r = .tuple #[.int .u64 (mulHi x y), .int .u64 (mulLo x y)]) := by
 intro E As
 refine ten Tryz.func323 ?_
 refine sq9 ?_
 refine HL_andZ rf rf rf ?_
 refine sq6 ?_
 refine HL_shrZ rf rf rf (by first | decide | omega) ?_
 refine sq6 ?_
 refine HL_andZ rf rf rf ?_
 refine sq6 ?_
 refine HL_shrZ rf rf rf (by first | decide | omega) ?_
 refine sq7 ?_
 refine HL_mulZ rf rf rf ?_
 refine sq7 ?_
 refine HL_mulZ rf rf rf ?_
 refine HL_move rf rf ?_
 refine HL_shrZ rf rf rf (by first | decide | omega) ?_
 refine HL_addZ rf rf rf ?_
 refine sq6 ?_
 refine HL_andZ rf rf rf ?_
 refine sq6 ?_
 refine HL_shrZ rf rf rf (by first | decide | omega) ?_
 refine sq8 ?_
 refine HL_mulZ rf rf rf ?_
 refine HL_addZ rf rf rf ?_
 refine sq7 ?_
 refine HL_mulZ rf rf rf ?_
 refine HL_move rf rf ?_
 refine HL_addZ rf rf rf ?_
 refine HL_move rf rf ?_
 refine HL_shrZ rf rf rf (by first | decide | omega) ?_
 refine HL_addZ rf rf rf ?_
 refine sq7 ?_
 refine HL_mulZ rf rf rf ?_
 refine sq5 ?_
 exact zrp zlr rfl
theorem bool324 {R : Frag} {b : Bool} : Pure Tryz.prog 324 [.bool b] R (fun _ r => r = .int .u64 (b2i b)) := by
 intro E As
 refine ten Tryz.func324 ?_
 refine sq11 ?_
 refine HC_cond rf (fun ht3 => ?_) (fun ht3 => ?_)
 ·subst ht3
  refine sq8 ?_
  exact zrp zlr rfl
 subst ht3
 refine sq9 ?_
 exact zrp zlr rfl
theorem nudge311 {R : Frag} {u z : Int} : Pure Tryz.prog 311 [.int .u64 u, .int .i64 z] R (fun _ r => r = .int .u64 (nudge u z)) := by
 intro E As
 refine ten Tryz.func311 ?_
 refine sq9 ?_
 refine HL_conv (z := IntKind.u64.wrap z) rf ⟨_, Tryz.underlying3⟩ Tryz.underlying341 rf rfl ?_
 refine HL_addZ rf rf rf ?_
 refine sq5 ?_
 exact zrp zlr rfl
theorem ceil312 {R : Frag} {u : Int} : Pure Tryz.prog 312 [.int .u64 u] R (fun _ r => r = .int .u64 (uceil u)) := by
 intro E As
 refine ten Tryz.func312 ?_
 refine sq8 ?_
 refine HL_addZ rf rf rf ?_
 refine HL_shrZ rf rf rf (by first | decide | omega) ?_
 refine sq5 ?_
 exact zrp zlr rfl
theorem floor313 {R : Frag} {u : Int} : Pure Tryz.prog 313 [.int .u64 u] R (fun _ r => r = .int .u64 (ufloor u)) := by
 intro E As
 refine ten Tryz.func313 ?_
 refine sq8 ?_
 refine HL_addZ rf rf rf ?_
 refine HL_shrZ rf rf rf (by first | decide | omega) ?_
 refine sq5 ?_
 exact zrp zlr rfl
theorem round314 {R : Frag} {u : Int} : Pure Tryz.prog 314 [.int .u64 u] R (fun _ r => r = .int .u64 (uround u)) := by
 intro E As
 refine ten Tryz.func314 ?_
 refine sq8 ?_
 refine HL_addZ rf rf rf ?_
 refine HL_move rf rf ?_
 refine HL_shrZ rf rf rf (by first | decide | omega) ?_
 refine HL_andZ rf rf rf ?_
 refine HL_addZ rf rf rf ?_
 refine HL_shrZ rf rf rf (by first | decide | omega) ?_
 refine sq5 ?_
 exact zrp zlr rfl
theorem log309 {R : Frag} {x : Int} (hx : -10000 ≤ x ∧ x ≤ 10000) : Pure Tryz.prog 309 [.int .i64 x] R (fun _ r => r = .int .i64 ((x * 108853) / 2 ^ 15)) := by
 intro E As
 refine ten Tryz.func309 ?_
 refine sq8 ?_
 refine HL_mulI rf rf rf (by omega) ?_
 refine HL_shr (z := (x * 108853) / 2 ^ 15) rf rf rf (by decide) (zshr_ediv .i64 _ 15 (by decide)) ?_
 refine sq5 ?_
 exact zrp zlr rfl
theorem skew307 {R : Frag} {x : Int} (hx : -10000 ≤ x ∧ x ≤ 10000) : Pure Tryz.prog 307 [.int .i64 x] R (fun _ r => r = .int .i64 ((x * 631305 - 261663) / 2 ^ 21)) := by
 intro E As
 refine ten Tryz.func307 ?_
 refine sq8 ?_
 refine HL_mulI rf rf rf (by omega) ?_
 refine HL_sub' rf rf rf (by omega) (by omega) ?_
 refine HL_shr (z := (x * 631305 - 261663) / 2 ^ 21) rf rf rf (by decide) (zshr_ediv .i64 _ 21 (by decide)) ?_
 refine sq5 ?_
 exact zrp zlr rfl
theorem logI268 {R : Frag} {x : Int} (hx : -10000 ≤ x ∧ x ≤ 10000) : Pure Tryz.prog 268 [.int .i64 x] R (fun _ r => r = .int .i64 ((x * 78913) / 2 ^ 18)) := by
 intro E As
 refine ten Tryz.func268 ?_
 refine sq8 ?_
 refine HL_mulI rf rf rf (by omega) ?_
 refine HL_shr (z := (x * 78913) / 2 ^ 18) rf rf rf (by decide) (zshr_ediv .i64 _ 18 (by decide)) ?_
 refine sq5 ?_
 exact zrp zlr rfl
theorem presc308 {R : Frag} {b : Nat} {a0 a1 a2 : Value} {e p lp : Int} {i : Nat} (hG : GlobF R) (hp : p + 348 = (i : Int)) (hi : i < 696) (he : -10000 ≤ e ∧ e ≤ 10000) (hlp : -10000 ≤ lp ∧ lp ≤ 10000) (E : Env) (As : List Ent) :
  Tri Tryz.prog 308 [.pointer (some ⟨b, 0, none⟩), .int .i64 e, .int .i64 p, .int .i64 lp] E R (blk b [a0, a1, a2] 338 :: As) (fun _ R' As' => Frag.le R R' ∧ As' = blk b [.int .u64 (p10H i), .int .u64 (p10L i), .int .i64 (-(e + lp + 3))] 338 :: As) := by
 have hrd := p10_rd hG hi
 refine ten Tryz.func308 ?_
 refine sq4 ?_
 refine HL_sub' rf rf rf (by omega) (by omega) ?_
 rw [show p - -348 = (i : Int) by omega]
 refine HL_indexAddr_arr rf Tryz.underlying351 ty350 rf rf (j := i) (by omega) ?_
 refine HL_fieldAddr rf f350_0 rf ?_
 refine HL_load_one rf ty48 rf (by simpa using hrd.1.rd) ?_
 refine sq2 ?_
 refine HL_store (vs := [_]) ty48 rf rf rf rf sss rf ?_
 refine sq6 ?_
 refine HL_sub' rf rf rf (by omega) (by omega) ?_
 rw [show p - -348 = (i : Int) by omega]
 refine HL_indexAddr_arr rf Tryz.underlying351 ty350 rf rf (j := i) (by omega) ?_
 refine HL_fieldAddr rf f350_1 rf ?_
 refine HL_load_one rf ty48 rf (by simpa using hrd.2.rd) ?_
 refine sq2 ?_
 refine HL_store (vs := [_]) ty48 rf rf rf rf sss rf ?_
 refine sq6 ?_
 refine HL_add rf rf rf (by omega) (by omega) ?_
 refine HL_add rf rf rf (by omega) (by omega) ?_
 refine HL_negI rf rf (by omega) ?_
 refine sq2 ?_
 refine HL_store (vs := [_]) ty3 rf rf rf rf sss rf ?_
 refine sq2 ?_
 exact fun w hs => ⟨_, _, _, rfl, hs, Frag.le_refl _, rfl⟩
theorem usc310 {R : Frag} {b : Nat} {x ph pl s : Int} (E : Env) (As : List Ent) :
  Tri Tryz.prog 310 [.int .u64 x, .pointer (some ⟨b, 0, none⟩)] E R (blk b [.int .u64 ph, .int .u64 pl, .int .i64 s] 338 :: As) (fun r R' As' => Frag.le R R' ∧ r = .int .u64 (usc x ph pl s) ∧ As' = blk b [.int .u64 ph, .int .u64 pl, .int .i64 s] 338 :: As) := by
 have hn := and63 s
 refine ten Tryz.func310 ?_
 refine sq12 ?_
 refine zlc rf (mul323 _ _) ?_
 rintro vR₁ R₁ As1 ⟨hAs, hle1, rfl⟩
 rw [hAs]
 clear hAs As1
 refine sq13 ?_
 refine HL_andZ rf rf rf ?_
 refine sq8 ?_
 refine HL_shrZ rf rf rf hn.1 ?_
 refine HL_move rf rf ?_
 refine HL_shlZ rf rf rf hn.1 ?_
 refine HL_move rf rf ?_
 refine HL_neq_int rf rf rf ?_
 refine sq2 ?_
 refine HC_cond rf (fun ht30 => ?_) (fun ht30 => ?_)
 ·refine sq4 ?_
  refine HL_shrZ rf rf rf hn.1 ?_
  refine HL_orZ rf rf rf ?_
  refine sq6 ?_
  exact fun w hs => ⟨_, _, _, rfl, hs, hle1, by unfold usc; simp only [ht30]; rfl, rfl⟩
 refine sq9 ?_
 refine zlc rf (mul323 _ _) ?_
 rintro vR₂ R₂ As1 ⟨hAs, hle2, rfl⟩
 rw [hAs]
 clear hAs As1
 refine sq13 ?_
 refine zlc rf (bool324 _ _) ?_
 rintro vR₃ R₃ As1 ⟨hAs, hle3, rfl⟩
 rw [hAs]
 clear hAs As1
 refine HL_subZ rf rf rf ?_
 refine sq4 ?_
 refine hdh 8 4 (fun jj R v => match jj with | 0 => v = .int .u64 (IntKind.u64.wrap (mulHi x ph - b2i (decide (mulLo x ph < mulHi x pl)))) | 1 => v = .int .i64 (zand .i64 s 63) | 2 => v = .int .u64 (zshr .u64 (IntKind.u64.wrap (mulHi x ph - b2i (decide (mulLo x ph < mulHi x pl)))) (zand .i64 s 63)) | 3 => v = .int .u64 (mulLo x ph) | 4 => v = .int .u64 (mulHi x pl) | 5 => v = .int .u64 (IntKind.u64.wrap (mulLo x ph - mulHi x pl)) | 6 => v = .bool (decide (IntKind.u64.wrap (mulLo x ph - mulHi x pl) > 1)) | 7 => v = .int .u64 (b2i (decide (IntKind.u64.wrap (mulLo x ph - mulHi x pl) > 1))) | _ => True) [(0, []), (1, []), (2, [(0, 50), (1, 51)]), (3, []), (4, []), (5, [(3, 53), (4, 54)]), (6, [(5, 55)]), (7, [(6, 56)])] [(0, 50), (1, 51), (2, 52), (3, 53), (4, 54), (5, 55), (6, 56), (7, 57)] ?_ ?_ ?_
 ·exact fun _ _ _ _ _ h => h
 ·refine ⟨dm, dm, ?_, dm, dm, ?_, ?_, ?_, trivial⟩
  ·intro R1 G hle; rintro _ rfl _ rfl
   refine HL_shrZ rf rf rf hn.1 dqn
  ·intro R1 G hle; rintro _ rfl _ rfl
   refine HL_subZ rf rf rf dqn
  ·intro R1 G hle; rintro _ rfl
   refine HL_gtr rf rf rf dqn
  intro R1 G hle; rintro _ rfl
  refine zlc rf (bool324 _ _) ?_
  rintro vR₄ R₄ As1 ⟨hAs, hle4, rfl⟩
  rw [hAs]
  clear hAs As1
  refine HL_nil ?_
  exact HQ_dq1 hle4 rfl .refl
 intro R1 hle; iterate 8 rintro _ rfl
 have hle5 := hle
 refine HL_orZ rf rf rf ?_
 refine sq5 ?_
 exact fun w hs => ⟨_, _, _, rfl, hs, zlt hle1 (zlt hle2 (zlt hle3 hle5)), by unfold usc; simp only [ht30]; rfl, rfl⟩
end Go.Sx

/-! Numbers as text: the shortest digits of a floating point number. Printed by a program of ours (wip/tools/gM58.py) out of the steps of the code. -/
namespace Go.Sx
open Go Go.Proofs Go.RowKit
set_option maxHeartbeats 8000000

def sfC (m e : Int) : Prop := m = 9223372036854775808 ∧ e > -1085
instance (m e : Int) : Decidable (sfC m e) := inferInstanceAs (Decidable (_ ∧ _))
def sfZ (e : Int) : Int := if e ≥ -1085 then 11 else 11 + (-1085 - e)
def sfP (m e : Int) : Int := if sfC m e then -(((e + 11) * 631305 - 261663) / 2 ^ 21) else -((e + sfZ e) * 78913 / 2 ^ 18)
def sfLo (m e : Int) : Int := IntKind.u64.wrap (m - zshl .u64 1 (if sfC m e then 9 else sfZ e - 1))
def sfHi (m e : Int) : Int := IntKind.u64.wrap (m + zshl .u64 1 (sfZ e - 1))
def sfO (m e : Int) : Int := zand .i64 (IntKind.i64.wrap (zshr .u64 m (sfZ e))) 1
def sfI (m e : Int) : Nat := (sfP m e + 348).toNat
def sfS (m e : Int) : Int := -(e + sfP m e * 108853 / 2 ^ 15 + 3)
def sfU (m e x : Int) : Int := usc x (p10H (sfI m e)) (p10L (sfI m e)) (sfS m e)
def sfDmin (m e : Int) : Int := uceil (nudge (sfU m e (sfLo m e)) (sfO m e))
def sfDmax (m e : Int) : Int := ufloor (nudge (sfU m e (sfHi m e)) (-sfO m e))
def sfD0 (m e : Int) : Int := IntKind.u64.wrap ((sfDmax m e).tdiv 10)
def sfD (m e : Int) : Int := if IntKind.u64.wrap (sfD0 m e * 10) ≥ sfDmin m e then sfD0 m e else if sfDmin m e < sfDmax m e then uround (sfU m e m) else sfDmin m e
def sfE (m e : Int) : Int := if IntKind.u64.wrap (sfD0 m e * 10) ≥ sfDmin m e then -(sfP m e - 1) else -sfP m e
theorem sfD_U (m e : Int) : U64 (sfD m e) := by
 unfold sfD
 split
 ·exact wrapU _
 split
 ·exact uroundU _
 exact uceilU _
theorem sfP_bd {m e : Int} (h : -1200 ≤ e ∧ e ≤ 971) : -300 ≤ sfP m e ∧ sfP m e ≤ 330 := by
 unfold sfP
 by_cases h2 : sfC m e
 ·simp only [if_pos h2]
  have := h2.2
  omega
 simp only [if_neg h2]
 unfold sfZ
 split <;> omega
theorem sfE_bd {m e : Int} (h : -1200 ≤ e ∧ e ≤ 971) : -400 ≤ sfE m e ∧ sfE m e ≤ 400 := by
 have := sfP_bd (m := m) h
 unfold sfE
 split <;> omega
theorem short298 {R : Frag} {m e : Int} (hG : GlobF R) (he : -1200 ≤ e ∧ e ≤ 971) : Pure Tryz.prog 298 [.int .u64 m, .int .i64 e] R (fun _ r => r = .tuple #[.int .u64 (sfD m e), .int .i64 (sfE m e)]) := by
 intro E As
 refine ten Tryz.func298 ?_
 refine sq15 ?_
 refine HL_mulZ rf rf rf ?_
 refine sq6 ?_
 refine HL_boolE (b' := false) (by decide) ?_
 refine sq7 ?_
 refine HL_boolE (b' := true) (by decide) ?_
 refine sq16 ?_
 refine sq9 ?_
 refine HC_seq_cut (fun F' R' As' => F' = [(0, .int .u64 m), (1, .int .i64 e), (7, .int .i64 (-1085)), (11, .int .i64 11)] ∧ As' = As ∧ R' = R) ?_ ?_
 ·refine sq2 ?_
  refine HL_subN (c := 11) rf rf rf (by omega) (by omega) ?_
  refine sq2 ?_
  refine hqc1 ⟨rfl, rfl, rfl⟩
 rintro F' R' As' ⟨rfl, hAs, hR⟩
 rw [hAs, hR]
 clear hAs hR As' R'
 refine HC_seq_cut (fun F' R' As' => F' = [(0, .int .u64 m), (1, .int .i64 e), (5, .int .i64 (sfP m e)), (8, .int .u64 (sfLo m e)), (9, .int .u64 (sfHi m e)), (10, .int .i64 (sfO m e))] ∧ As' = As ∧ Frag.le R R') ?_ ?_
 ·refine sq4 ?_
  refine HL_segp 5 28 (fun c => c = true ↔ sfC m e) ?_ ?_
  ·refine HL_move_b rf rf (fun hb24 => ?_) (fun hb24 => ?_)
   ·refine sq8 ?_
    exact zsp (h := by first | (simp [sfC]; simp_all; done) | (unfold sfC; simp at hb24 ⊢; omega))
   refine sq5 ?_
   exact zsp (h := by first | (simp [sfC]; simp_all; done) | (unfold sfC; simp at hb24 ⊢; omega))
  intro c28 hx28
  refine HL_nil ?_
  refine HQ_then ?_
  refine HC_cond rf (fun ht28 => ?_) (fun ht28 => ?_)
  ·have hc : sfC m e := hx28.1 ht28
   have hz : sfZ e = 11 := by unfold sfZ; rw [if_pos (by have := hc.2; omega)]
   refine sq4 ?_
   refine HL_add rf rf rf (by omega) (by omega) ?_
   refine zlc rf (skew307 (by omega) _ _) ?_
   rintro vR₂ R₂ As1 ⟨hAs, hle2, rfl⟩
   rw [hAs]
   clear hAs As1
   refine HL_negI rf rf (by omega) ?_
   refine sq7 ?_
   refine HL_subN (c := 9) rf rf rf (by omega) (by omega) ?_
   refine HL_shlZ rf rf rf (by omega) ?_
   refine HL_subZ rf rf rf ?_
   refine sq7 ?_
   refine HL_subN (c := 10) rf rf rf (by omega) (by omega) ?_
   refine HL_shlZ rf rf rf (by omega) ?_
   refine HL_addZ rf rf rf ?_
   refine sq6 ?_
   refine HL_shrZ rf rf rf (by omega) ?_
   refine HL_conv rf ⟨_, Tryz.underlying48⟩ Tryz.underlying3 rf rfl ?_
   refine HL_andZ rf rf rf ?_
   refine sq2 ?_
   have e5 : sfP m e = -(((e + 11) * 631305 - 261663) / 2 ^ 21) := by unfold sfP; rw [if_pos hc]
   have e8 : sfLo m e = IntKind.u64.wrap (m - zshl .u64 1 9) := by unfold sfLo; rw [if_pos hc]
   have e9 : sfHi m e = IntKind.u64.wrap (m + zshl .u64 1 (11 - 1)) := by unfold sfHi; rw [hz]
   have e10 : sfO m e = zand .i64 (IntKind.i64.wrap (zshr .u64 m (11))) 1 := by unfold sfO; rw [hz]
   refine HQ_cut [(0, .int .u64 m), (1, .int .i64 e), (5, .int .i64 (sfP m e)), (8, .int .u64 (sfLo m e)), (9, .int .u64 (sfHi m e)), (10, .int .i64 (sfO m e))] _ (by rw [e5, e8, e9, e10]; exact ⟨rfl, rfl, rfl, rfl, rfl, rfl, trivial⟩) (.refl _) ⟨rfl, rfl, hle2⟩
  have hc : ¬ sfC m e := fun h => by rw [hx28.2 h] at ht28; cases ht28
  refine sq7 ?_
  refine HC_cond rf (fun ht51 => ?_) (fun ht51 => ?_)
  ·have hge : e ≥ -1085 := of_decide_eq_true ht51
   have hz : sfZ e = 11 := by unfold sfZ; rw [if_pos hge]
   refine sq4 ?_
   refine HL_add rf rf rf (by omega) (by omega) ?_
   refine zlc rf (logI268 (by omega) _ _) ?_
   rintro vR₂ R₂ As1 ⟨hAs, hle2, rfl⟩
   rw [hAs]
   clear hAs As1
   refine HL_negI rf rf (by omega) ?_
   refine sq7 ?_
   refine HL_subN (c := 10) rf rf rf (by omega) (by omega) ?_
   refine HL_shlZ rf rf rf (by omega) ?_
   refine HL_subZ rf rf rf ?_
   refine sq7 ?_
   refine HL_subN (c := 10) rf rf rf (by omega) (by omega) ?_
   refine HL_shlZ rf rf rf (by omega) ?_
   refine HL_addZ rf rf rf ?_
   refine sq6 ?_
   refine HL_shrZ rf rf rf (by omega) ?_
   refine HL_conv rf ⟨_, Tryz.underlying48⟩ Tryz.underlying3 rf rfl ?_
   refine HL_andZ rf rf rf ?_
   refine sq2 ?_
   have e5 : sfP m e = -((e + (11)) * 78913 / 2 ^ 18) := by unfold sfP; rw [if_neg hc, hz]
   have e8 : sfLo m e = IntKind.u64.wrap (m - zshl .u64 1 (11 - 1)) := by unfold sfLo; rw [if_neg hc, hz]
   have e9 : sfHi m e = IntKind.u64.wrap (m + zshl .u64 1 (11 - 1)) := by unfold sfHi; rw [hz]
   have e10 : sfO m e = zand .i64 (IntKind.i64.wrap (zshr .u64 m (11))) 1 := by unfold sfO; rw [hz]
   refine HQ_cut [(0, .int .u64 m), (1, .int .i64 e), (5, .int .i64 (sfP m e)), (8, .int .u64 (sfLo m e)), (9, .int .u64 (sfHi m e)), (10, .int .i64 (sfO m e))] _ (by rw [e5, e8, e9, e10]; exact ⟨rfl, rfl, rfl, rfl, rfl, rfl, trivial⟩) (.refl _) ⟨rfl, rfl, hle2⟩
  have hlt : ¬ e ≥ -1085 := of_decide_eq_false ht51
  have hz : sfZ e = 11 + (-1085 - e) := by unfold sfZ; rw [if_neg hlt]
  refine sq5 ?_
  refine HL_sub' rf rf rf (by omega) (by omega) ?_
  refine HL_add rf rf rf (by omega) (by omega) ?_
  refine sq7 ?_
  refine HL_add rf rf rf (by omega) (by omega) ?_
  refine zlc rf (logI268 (by omega) _ _) ?_
  rintro vR₂ R₂ As1 ⟨hAs, hle2, rfl⟩
  rw [hAs]
  clear hAs As1
  refine HL_negI rf rf (by omega) ?_
  refine sq7 ?_
  refine HL_sub' rf rf rf (by omega) (by omega) ?_
  refine HL_shlZ rf rf rf (by omega) ?_
  refine HL_subZ rf rf rf ?_
  refine sq7 ?_
  refine HL_sub' rf rf rf (by omega) (by omega) ?_
  refine HL_shlZ rf rf rf (by omega) ?_
  refine HL_addZ rf rf rf ?_
  refine sq6 ?_
  refine HL_shrZ rf rf rf (by omega) ?_
  refine HL_conv rf ⟨_, Tryz.underlying48⟩ Tryz.underlying3 rf rfl ?_
  refine HL_andZ rf rf rf ?_
  refine sq2 ?_
  have e5 : sfP m e = -((e + (11 + (-1085 - e))) * 78913 / 2 ^ 18) := by unfold sfP; rw [if_neg hc, hz]
  have e8 : sfLo m e = IntKind.u64.wrap (m - zshl .u64 1 (11 + (-1085 - e) - 1)) := by unfold sfLo; rw [if_neg hc, hz]
  have e9 : sfHi m e = IntKind.u64.wrap (m + zshl .u64 1 (11 + (-1085 - e) - 1)) := by unfold sfHi; rw [hz]
  have e10 : sfO m e = zand .i64 (IntKind.i64.wrap (zshr .u64 m (11 + (-1085 - e)))) 1 := by unfold sfO; rw [hz]
  refine HQ_cut [(0, .int .u64 m), (1, .int .i64 e), (5, .int .i64 (sfP m e)), (8, .int .u64 (sfLo m e)), (9, .int .u64 (sfHi m e)), (10, .int .i64 (sfO m e))] _ (by rw [e5, e8, e9, e10]; exact ⟨rfl, rfl, rfl, rfl, rfl, rfl, trivial⟩) (.refl _) ⟨rfl, rfl, hle2⟩
 rintro F' R₁ As' ⟨rfl, hAs, hle1⟩
 rw [hAs]
 clear hAs As'
 have hp := sfP_bd (m := m) he
 have hi : sfP m e + 348 = ((sfI m e : Nat) : Int) := by unfold sfI; omega
 have hi2 : sfI m e < 696 := by omega
 have ho := and1 (IntKind.i64.wrap (zshr .u64 m (sfZ e)))
 refine sq2 ?_
 refine HL_alloc rf z338 rf (fun b12 => ?_)
 refine sq7 ?_
 refine zlc rf (log309 (by omega) _ _) ?_
 rintro vR₂ R₂ As1 ⟨hAs, hle2, rfl⟩
 rw [hAs]
 clear hAs As1
 have hb := presc308 (R := R₂) (b := b12) (a0 := .int .u64 0) (a1 := .int .u64 0) (a2 := .int .i64 0) (e := e) (p := sfP m e) (lp := sfP m e * 108853 / 2 ^ 15) (hG.mono (zlt hle1 hle2)) hi hi2 (by omega) (by omega) E As
 refine zlc rf hb ?_
 clear hb
 rintro v R₃ As1 ⟨hle3, hAs⟩
 rw [hAs]
 clear hAs As1
 refine sq5 ?_
 have hb := usc310 (R := R₃) (b := b12) (x := sfLo m e) (ph := p10H (sfI m e)) (pl := p10L (sfI m e)) (s := sfS m e) E As
 refine zlc rf hb ?_
 clear hb
 rintro v R₄ As1 ⟨hle4, rfl, hAs⟩
 rw [hAs]
 clear hAs As1
 refine HL_move rf rf ?_
 refine zlc rf (nudge311 _ _) ?_
 rintro vR₅ R₅ As1 ⟨hAs, hle5, rfl⟩
 rw [hAs]
 clear hAs As1
 refine zlc rf (ceil312 _ _) ?_
 rintro vR₆ R₆ As1 ⟨hAs, hle6, rfl⟩
 rw [hAs]
 clear hAs As1
 refine sq6 ?_
 have hb := usc310 (R := R₆) (b := b12) (x := sfHi m e) (ph := p10H (sfI m e)) (pl := p10L (sfI m e)) (s := sfS m e) E As
 refine zlc rf hb ?_
 clear hb
 rintro v R₇ As1 ⟨hle7, rfl, hAs⟩
 rw [hAs]
 clear hAs As1
 refine HL_move rf rf ?_
 refine HL_negI rf rf (by show _ < sfO m e ∧ sfO m e < _; unfold sfO; omega) ?_
 refine zlc rf (nudge311 _ _) ?_
 rintro vR₈ R₈ As1 ⟨hAs, hle8, rfl⟩
 rw [hAs]
 clear hAs As1
 refine zlc rf (floor313 _ _) ?_
 rintro vR₉ R₉ As1 ⟨hAs, hle9, rfl⟩
 rw [hAs]
 clear hAs As1
 have hle19 := zlt hle1 (zlt hle2 (zlt hle3 (zlt hle4 (zlt hle5 (zlt hle6 (zlt hle7 (zlt hle8 hle9)))))))
 refine sq7 ?_
 refine HL_quoZ rf rf rf (by decide) ?_
 refine sq6 ?_
 refine HL_mulZ rf rf rf ?_
 refine sq4 ?_
 refine HC_cond rf (fun ht118 => ?_) (fun ht118 => ?_)
 ·have h1 : IntKind.u64.wrap (sfD0 m e * 10) ≥ sfDmin m e := of_decide_eq_true ht118
  refine sq4 ?_
  refine HL_sub' rf rf rf (by omega) (by omega) ?_
  refine HL_negI rf rf (by omega) ?_
  refine sq7 ?_
  exact fun w hs => ⟨_, _, _, rfl, hs.drop .here, rfl, hle19, by rw [show sfD m e = sfD0 m e by unfold sfD; rw [if_pos h1], show sfE m e = -(sfP m e - 1) by unfold sfE; rw [if_pos h1]]; rfl⟩
 have h1 : ¬ IntKind.u64.wrap (sfD0 m e * 10) ≥ sfDmin m e := of_decide_eq_false ht118
 refine sq2 ?_
 refine HC_seq_cut (fun F' R' As' => F' = [(4, .int .u64 (sfD m e)), (5, .int .i64 (sfP m e))] ∧ As' = blk b12 [.int .u64 (p10H (sfI m e)), .int .u64 (p10L (sfI m e)), .int .i64 (sfS m e)] 338 :: As ∧ Frag.le R R') ?_ ?_
 ·refine sq13 ?_
  refine HC_cond rf (fun ht126 => ?_) (fun ht126 => ?_)
  ·have h2 : sfDmin m e < sfDmax m e := of_decide_eq_true ht126
   refine sq2 ?_
   have hb := usc310 (R := R₉) (b := b12) (x := m) (ph := p10H (sfI m e)) (pl := p10L (sfI m e)) (s := sfS m e) E As
   refine zlc rf hb ?_
   clear hb
   rintro v Rb As1 ⟨hleb, rfl, hAs⟩
   rw [hAs]
   clear hAs As1
   refine zlc rf (round314 _ _) ?_
   rintro vRc Rc As1 ⟨hAs, hlec, rfl⟩
   rw [hAs]
   clear hAs As1
   refine sq2 ?_
   have eD : sfD m e = uround (sfU m e m) := by unfold sfD; rw [if_neg h1, if_pos h2]
   exact HQ_cut [(4, .int .u64 (sfD m e)), (5, .int .i64 (sfP m e))] _ (by rw [eD]; exact ⟨rfl, rfl, trivial⟩) (.refl _) ⟨rfl, rfl, zlt hle19 (zlt hleb hlec)⟩
  have h2 : ¬ sfDmin m e < sfDmax m e := of_decide_eq_false ht126
  refine HC_skip ?_
  have eD : sfD m e = sfDmin m e := by unfold sfD; rw [if_neg h1, if_neg h2]
  exact HQ_cut [(4, .int .u64 (sfD m e)), (5, .int .i64 (sfP m e))] _ (by rw [eD]; exact ⟨rfl, rfl, trivial⟩) (.refl _) ⟨rfl, rfl, hle19⟩
 rintro F' Ra As' ⟨rfl, rfl, hlea⟩
 refine sq4 ?_
 refine HL_negI rf rf (by omega) ?_
 refine sq6 ?_
 exact fun w hs => ⟨_, _, _, rfl, hs.drop .here, rfl, hlea, by rw [show sfE m e = -sfP m e by unfold sfE; rw [if_neg h1]]⟩
end Go.Sx

/-! Numbers as text: digits. Printed by a program of ours (wip/tools/gM54.py) out of the steps of the code. -/
namespace Go.Sx
open Go Go.Proofs Go.RowKit
set_option maxHeartbeats 8000000

def smallsB : ByteArray := ⟨#[48, 48, 48, 49, 48, 50, 48, 51, 48, 52, 48, 53, 48, 54, 48, 55, 48, 56, 48, 57, 49, 48, 49, 49, 49, 50, 49, 51, 49, 52, 49, 53, 49, 54, 49, 55, 49, 56, 49, 57, 50, 48, 50, 49, 50, 50, 50, 51, 50, 52, 50, 53, 50, 54, 50, 55, 50, 56, 50, 57, 51, 48, 51, 49, 51, 50, 51, 51, 51, 52, 51, 53, 51, 54, 51, 55, 51, 56, 51, 57, 52, 48, 52, 49, 52, 50, 52, 51, 52, 52, 52, 53, 52, 54, 52, 55, 52, 56, 52, 57, 53, 48, 53, 49, 53, 50, 53, 51, 53, 52, 53, 53, 53, 54, 53, 55, 53, 56, 53, 57, 54, 48, 54, 49, 54, 50, 54, 51, 54, 52, 54, 53, 54, 54, 54, 55, 54, 56, 54, 57, 55, 48, 55, 49, 55, 50, 55, 51, 55, 52, 55, 53, 55, 54, 55, 55, 55, 56, 55, 57, 56, 48, 56, 49, 56, 50, 56, 51, 56, 52, 56, 53, 56, 54, 56, 55, 56, 56, 56, 57, 57, 48, 57, 49, 57, 50, 57, 51, 57, 52, 57, 53, 57, 54, 57, 55, 57, 56, 57, 57]⟩
def smD (i : Nat) : UInt8 := UInt8.ofNat (48 + (if i % 2 = 0 then i / 2 / 10 else i / 2 % 10))
theorem small_get : ∀ i, i < 200 → smallsB[i]? = some (smD i) := by decide +kernel
def d2 (q : Nat) : List UInt8 := [smD (q * 2), smD (q * 2 + 1)]
def d4 (x : Nat) : List UInt8 := d2 (x / 100) ++ d2 (x % 100)
def d8 (x : Nat) : List UInt8 := d4 (x / 10000) ++ d4 (x % 10000)
def fb1 (n x : Nat) : List UInt8 := if n = 0 then [] else [UInt8.ofNat (48 + x)]
def fb2 (n x : Nat) : List UInt8 := if 2 ≤ n then fb1 (n - 2) (x / 100) ++ d2 (x % 100) else fb1 n x
def fb4 (n x : Nat) : List UInt8 := if 4 ≤ n then fb2 (n - 4) (x / 10000) ++ d4 (x % 10000) else fb2 n x
def fb (n u : Nat) : List UInt8 := if 8 ≤ n then fb (n - 8) (u / 100000000) ++ d8 (u % 100000000) else fb4 n (u % 4294967296)
termination_by n
theorem fb_len : ∀ n u, (fb n u).length = n := by
 intro n
 induction n using Nat.strongRecOn with
 | _ n ih =>
  intro u
  rw [fb]
  split
  ·rw [List.length_append, ih (n - 8) (by omega)]
   simp [d8, d4, d2]
   omega
  unfold fb4 fb2 fb1 d4 d2
  repeat' split
  all_goals simp
  all_goals omega
theorem last2 (X : List Value) (h : 2 ≤ X.length) : ∃ X1 a0 a1, X = X1 ++ [a0, a1] := by
 have e := (List.take_append_drop (X.length - 2) X).symm
 have hl : (X.drop (X.length - 2)).length = 2 := by simp; omega
 match hd : X.drop (X.length - 2), hl with
 | [a, b], _ => exact ⟨_, a, b, by rw [hd] at e; exact e⟩
theorem last4 (X : List Value) (h : 4 ≤ X.length) : ∃ X1 a0 a1 a2 a3, X = X1 ++ [a0, a1, a2, a3] := by
 have e := (List.take_append_drop (X.length - 4) X).symm
 have hl : (X.drop (X.length - 4)).length = 4 := by simp; omega
 match hd : X.drop (X.length - 4), hl with
 | [a, b, c, d], _ => exact ⟨_, a, b, c, d, by rw [hd] at e; exact e⟩
theorem last8 (X : List Value) (h : 8 ≤ X.length) : ∃ X1 a0 a1 a2 a3 a4 a5 a6 a7, X = X1 ++ [a0, a1, a2, a3, a4, a5, a6, a7] := by
 have e := (List.take_append_drop (X.length - 8) X).symm
 have hl : (X.drop (X.length - 8)).length = 8 := by simp; omega
 match hd : X.drop (X.length - 8), hl with
 | [a, b, c, d, a', b', c', d'], _ => exact ⟨_, a, b, c, d, a', b', c', d', by rw [hd] at e; exact e⟩
theorem base232 {R : Frag} {g o n cap u TT : Nat} {pre old post : List Value} (ho : o = pre.length) (hold : old.length = n) (hn : n ≤ 100) (hu : u < 18446744073709551616) (E : Env) (As : List Ent) :
  Tri Tryz.prog 232 [.slice (some ⟨g, o, none⟩) n cap, .int .u64 (u : Int)] E R (blk g (pre ++ (old ++ post)) TT :: As) (fun _ R' As' => Frag.le R R' ∧ As' = blk g (pre ++ (bcells (fb n u) ++ post)) TT :: As) := by
 rw [show pre ++ (old ++ post) = pre ++ (old ++ (bcells [] ++ post)) by simp [bcells]]
 refine ten Tryz.func232 ?_
 refine sq9 ?_
 refine hcl (fun F' R' As' m => ∃ (X : List Value) (D : List UInt8) (u1 : Nat), X.length ≤ n ∧ fb n u = fb X.length u1 ++ D ∧ u1 < 18446744073709551616 ∧ X.length = m ∧ F' = [(0, .slice (some ⟨g, o, none⟩) n cap), (1, .int .u64 (u1 : Int)), (4, .int .i64 ((X.length : Nat) : Int))] ∧ As' = blk g (pre ++ (X ++ (bcells (D) ++ post))) TT :: As ∧ Frag.le R R') (blk g (pre ++ (old ++ (bcells ([]) ++ post))) TT :: As) n ⟨old, [], u, by omega, by rw [hold, List.append_nil], hu, hold, by rw [hold], rfl, Frag.le_refl _⟩ ?_
 rintro F' R₂ As' m ⟨X, D, u1, hX, hfb, hu1, rfl, rfl, rfl, hle2⟩
 refine sq7 ?_
 refine HC_cond rf (fun ht20 => ?_) (fun ht20 => ?_)
 ·obtain ⟨X1, a0, a1, a2, a3, a4, a5, a6, a7, rfl⟩ := last8 X (by have := of_decide_eq_true ht20; omega)
  have hX8 : (X1 ++ [a0, a1, a2, a3, a4, a5, a6, a7]).length = X1.length + 8 := by simp
  rw [hX8] at hX ⊢
  rw [show pre ++ (X1 ++ [a0, a1, a2, a3, a4, a5, a6, a7] ++ (bcells D ++ post)) = (pre ++ X1) ++ (a0 :: a1 :: a2 :: a3 :: a4 :: a5 :: a6 :: a7 :: (bcells D ++ post)) by simp]
  have hq : u1 % 100000000 < 100000000 := Nat.mod_lt _ (by omega)
  refine sq6 ?_
  refine HL_remK (a := u1) (b := 100000000) rf rf rf (by omega) ?_
  refine HL_convN (a := u1 % 100000000) rf ⟨_, Tryz.underlying48⟩ Tryz.underlying211 rf (by first | (show _ < (256 : Nat); omega) | (show _ < (2147483648 : Nat); omega) | (show _ < (4294967296 : Nat); omega) | (show _ < (9223372036854775808 : Nat); omega) | (show _ < (18446744073709551616 : Nat); omega)) ?_
  refine sq6 ?_
  refine HL_quoK (a := u1) (b := 100000000) rf rf rf (by omega) (by first | (show _ < (256 : Nat); omega) | (show _ < (2147483648 : Nat); omega) | (show _ < (4294967296 : Nat); omega) | (show _ < (9223372036854775808 : Nat); omega) | (show _ < (18446744073709551616 : Nat); omega)) ?_
  refine sq6 ?_
  refine HL_quoK (a := (u1 % 100000000)) (b := 10000) rf rf rf (by omega) (by first | (show _ < (256 : Nat); omega) | (show _ < (2147483648 : Nat); omega) | (show _ < (4294967296 : Nat); omega) | (show _ < (9223372036854775808 : Nat); omega) | (show _ < (18446744073709551616 : Nat); omega)) ?_
  refine HL_move rf rf ?_
  refine HL_remK (a := (u1 % 100000000)) (b := 10000) rf rf rf (by omega) ?_
  refine sq7 ?_
  refine HL_quoK (a := (u1 % 100000000) % 10000) (b := 100) rf rf rf (by omega) (by first | (show _ < (256 : Nat); omega) | (show _ < (2147483648 : Nat); omega) | (show _ < (4294967296 : Nat); omega) | (show _ < (9223372036854775808 : Nat); omega) | (show _ < (18446744073709551616 : Nat); omega)) ?_
  refine HL_mulK (a := (u1 % 100000000) % 10000 / 100) (b := 2) rf rf rf rfl (by first | (show _ < (256 : Nat); omega) | (show _ < (2147483648 : Nat); omega) | (show _ < (4294967296 : Nat); omega) | (show _ < (9223372036854775808 : Nat); omega) | (show _ < (18446744073709551616 : Nat); omega)) ?_
  refine HL_move rf rf ?_
  refine HL_remK (a := (u1 % 100000000) % 10000) (b := 100) rf rf rf (by omega) ?_
  refine HL_mulK (a := (u1 % 100000000) % 10000 % 100) (b := 2) rf rf rf rfl (by first | (show _ < (256 : Nat); omega) | (show _ < (2147483648 : Nat); omega) | (show _ < (4294967296 : Nat); omega) | (show _ < (9223372036854775808 : Nat); omega) | (show _ < (18446744073709551616 : Nat); omega)) ?_
  refine sq7 ?_
  refine HL_quoK (a := (u1 % 100000000) / 10000) (b := 100) rf rf rf (by omega) (by first | (show _ < (256 : Nat); omega) | (show _ < (2147483648 : Nat); omega) | (show _ < (4294967296 : Nat); omega) | (show _ < (9223372036854775808 : Nat); omega) | (show _ < (18446744073709551616 : Nat); omega)) ?_
  refine HL_mulK (a := (u1 % 100000000) / 10000 / 100) (b := 2) rf rf rf rfl (by first | (show _ < (256 : Nat); omega) | (show _ < (2147483648 : Nat); omega) | (show _ < (4294967296 : Nat); omega) | (show _ < (9223372036854775808 : Nat); omega) | (show _ < (18446744073709551616 : Nat); omega)) ?_
  refine HL_move rf rf ?_
  refine HL_remK (a := (u1 % 100000000) / 10000) (b := 100) rf rf rf (by omega) ?_
  refine HL_mulK (a := (u1 % 100000000) / 10000 % 100) (b := 2) rf rf rf rfl (by first | (show _ < (256 : Nat); omega) | (show _ < (2147483648 : Nat); omega) | (show _ < (4294967296 : Nat); omega) | (show _ < (9223372036854775808 : Nat); omega) | (show _ < (18446744073709551616 : Nat); omega)) ?_
  refine sq5 ?_
  refine hdp [(3, 45, .slice (some ⟨g, o, none⟩) n cap), (4, 46, .int .i64 (((X1.length + 8) : Nat) : Int)), (5, 47, .int .i64 (((X1.length + 8) - 2 : Nat) : Int)), (9, 51, .int .u32 ((((u1 % 100000000) % 10000 % 100) * 2 : Nat) : Int)), (10, 52, .int .u8 ((smD (((u1 % 100000000) % 10000 % 100) * 2)).toNat : Int))] 11 1 (fun jj R v => match jj with | 0 => v = .slice (some ⟨g, o, none⟩) n cap | 1 => v = .int .i64 (((X1.length + 8) : Nat) : Int) | 2 => v = .int .i64 (((X1.length + 8) - 1 : Nat) : Int) | 3 => v = .slice (some ⟨g, o, none⟩) n cap | 4 => v = .int .i64 (((X1.length + 8) : Nat) : Int) | 5 => v = .int .i64 (((X1.length + 8) - 2 : Nat) : Int) | 6 => v = .int .u32 ((((u1 % 100000000) % 10000 % 100) * 2 : Nat) : Int) | 7 => v = .int .u32 ((((u1 % 100000000) % 10000 % 100) * 2 + 1 : Nat) : Int) | 8 => v = .int .u8 ((smD (((u1 % 100000000) % 10000 % 100) * 2 + 1)).toNat : Int) | 9 => v = .int .u32 ((((u1 % 100000000) % 10000 % 100) * 2 : Nat) : Int) | 10 => v = .int .u8 ((smD (((u1 % 100000000) % 10000 % 100) * 2)).toNat : Int) | _ => True) [(0, []), (1, []), (2, [(1, 43)]), (3, []), (4, []), (5, [(4, 46)]), (6, []), (7, [(6, 48)]), (8, [(7, 49)]), (9, []), (10, [(9, 51)])] [(0, 42), (1, 43), (2, 44), (3, 45), (4, 46), (5, 47), (6, 48), (7, 49), (8, 50), (9, 51), (10, 52)] (.move rf rf rf (.move rf rf rf (.subN rf rf rf rf (by omega) (by omega) (.move rf rf rf (.indexS (s := smallsB) rf rf Tryz.underlying9 rf rf (small_get _ (by omega)) (.nil _)))))) ?_ ?_ ?_
  ·exact fun _ _ _ _ _ h => h
  ·refine ⟨dm, dm, ?_, dm, dm, ?_, dm, ?_, ?_, dm, ?_, trivial⟩
   ·intro R1 G hle; rintro _ rfl
    refine HL_subN (c := (X1.length + 8) - 1) rf rf rf (by omega) (by omega) dqn
   ·intro R1 G hle; rintro _ rfl
    refine HL_subN (c := (X1.length + 8) - 2) rf rf rf (by omega) (by omega) dqn
   ·intro R1 G hle; rintro _ rfl
    refine HL_addK (a := ((u1 % 100000000) % 10000 % 100) * 2) (b := 1) rf rf rf rfl (by first | (show _ < (256 : Nat); omega) | (show _ < (2147483648 : Nat); omega) | (show _ < (4294967296 : Nat); omega) | (show _ < (9223372036854775808 : Nat); omega) | (show _ < (18446744073709551616 : Nat); omega)) dqn
   ·intro R1 G hle; rintro _ rfl
    refine HL_indexSk (s := smallsB) rf Tryz.underlying9 rf rf (i := ((u1 % 100000000) % 10000 % 100) * 2 + 1) rfl (small_get _ (by omega)) dqn
   intro R1 G hle; rintro _ rfl
   refine HL_indexSk (s := smallsB) rf Tryz.underlying9 rf rf (i := ((u1 % 100000000) % 10000 % 100) * 2) rfl (small_get _ (by omega)) dqn
  intro R1 hle; iterate 11 rintro _ rfl
  have hle7 := hle
  refine HL_indexAddrI rf Tryz.underlying55 ty5 rf rf (j := (X1.length + 8) - 1) rfl (by omega) ?_
  refine HL_storeAt (P0 := (pre ++ X1)) (cs := a0 :: a1 :: a2 :: a3 :: a4 :: a5 :: a6 :: a7 :: (bcells D ++ post)) (cs' := a0 :: a1 :: a2 :: a3 :: a4 :: a5 :: a6 :: .int .u8 ((smD (((u1 % 100000000) % 10000 % 100) * 2 + 1)).toNat : Int) :: (bcells D ++ post)) (k := 7) ty5 rf (by simp; omega) rf rf rf sss (by simp only [spl, spl_nil]) (by simp) ?_
  refine HL_indexAddrI rf Tryz.underlying55 ty5 rf rf (j := (X1.length + 8) - 2) rfl (by omega) ?_
  refine HL_storeAt (P0 := (pre ++ X1)) (cs := a0 :: a1 :: a2 :: a3 :: a4 :: a5 :: a6 :: .int .u8 ((smD (((u1 % 100000000) % 10000 % 100) * 2 + 1)).toNat : Int) :: (bcells D ++ post)) (cs' := a0 :: a1 :: a2 :: a3 :: a4 :: a5 :: .int .u8 ((smD (((u1 % 100000000) % 10000 % 100) * 2)).toNat : Int) :: .int .u8 ((smD (((u1 % 100000000) % 10000 % 100) * 2 + 1)).toNat : Int) :: (bcells D ++ post)) (k := 6) ty5 rf (by simp; omega) rf rf rf sss (by simp only [spl, spl_nil]) (by simp) ?_
  refine sq3 ?_
  refine hdp [(3, 58, .slice (some ⟨g, o, none⟩) n cap), (4, 59, .int .i64 (((X1.length + 8) : Nat) : Int)), (5, 60, .int .i64 (((X1.length + 8) - 4 : Nat) : Int)), (9, 64, .int .u32 ((((u1 % 100000000) % 10000 / 100) * 2 : Nat) : Int)), (10, 65, .int .u8 ((smD (((u1 % 100000000) % 10000 / 100) * 2)).toNat : Int))] 11 1 (fun jj R v => match jj with | 0 => v = .slice (some ⟨g, o, none⟩) n cap | 1 => v = .int .i64 (((X1.length + 8) : Nat) : Int) | 2 => v = .int .i64 (((X1.length + 8) - 3 : Nat) : Int) | 3 => v = .slice (some ⟨g, o, none⟩) n cap | 4 => v = .int .i64 (((X1.length + 8) : Nat) : Int) | 5 => v = .int .i64 (((X1.length + 8) - 4 : Nat) : Int) | 6 => v = .int .u32 ((((u1 % 100000000) % 10000 / 100) * 2 : Nat) : Int) | 7 => v = .int .u32 ((((u1 % 100000000) % 10000 / 100) * 2 + 1 : Nat) : Int) | 8 => v = .int .u8 ((smD (((u1 % 100000000) % 10000 / 100) * 2 + 1)).toNat : Int) | 9 => v = .int .u32 ((((u1 % 100000000) % 10000 / 100) * 2 : Nat) : Int) | 10 => v = .int .u8 ((smD (((u1 % 100000000) % 10000 / 100) * 2)).toNat : Int) | _ => True) [(0, []), (1, []), (2, [(1, 56)]), (3, []), (4, []), (5, [(4, 59)]), (6, []), (7, [(6, 61)]), (8, [(7, 62)]), (9, []), (10, [(9, 64)])] [(0, 55), (1, 56), (2, 57), (3, 58), (4, 59), (5, 60), (6, 61), (7, 62), (8, 63), (9, 64), (10, 65)] (.move rf rf rf (.move rf rf rf (.subN rf rf rf rf (by omega) (by omega) (.move rf rf rf (.indexS (s := smallsB) rf rf Tryz.underlying9 rf rf (small_get _ (by omega)) (.nil _)))))) ?_ ?_ ?_
  ·exact fun _ _ _ _ _ h => h
  ·refine ⟨dm, dm, ?_, dm, dm, ?_, dm, ?_, ?_, dm, ?_, trivial⟩
   ·intro R1 G hle; rintro _ rfl
    refine HL_subN (c := (X1.length + 8) - 3) rf rf rf (by omega) (by omega) dqn
   ·intro R1 G hle; rintro _ rfl
    refine HL_subN (c := (X1.length + 8) - 4) rf rf rf (by omega) (by omega) dqn
   ·intro R1 G hle; rintro _ rfl
    refine HL_addK (a := ((u1 % 100000000) % 10000 / 100) * 2) (b := 1) rf rf rf rfl (by first | (show _ < (256 : Nat); omega) | (show _ < (2147483648 : Nat); omega) | (show _ < (4294967296 : Nat); omega) | (show _ < (9223372036854775808 : Nat); omega) | (show _ < (18446744073709551616 : Nat); omega)) dqn
   ·intro R1 G hle; rintro _ rfl
    refine HL_indexSk (s := smallsB) rf Tryz.underlying9 rf rf (i := ((u1 % 100000000) % 10000 / 100) * 2 + 1) rfl (small_get _ (by omega)) dqn
   intro R1 G hle; rintro _ rfl
   refine HL_indexSk (s := smallsB) rf Tryz.underlying9 rf rf (i := ((u1 % 100000000) % 10000 / 100) * 2) rfl (small_get _ (by omega)) dqn
  intro R1 hle; iterate 11 rintro _ rfl
  have hle8 := zlt hle7 hle
  refine HL_indexAddrI rf Tryz.underlying55 ty5 rf rf (j := (X1.length + 8) - 3) rfl (by omega) ?_
  refine HL_storeAt (P0 := (pre ++ X1)) (cs := a0 :: a1 :: a2 :: a3 :: a4 :: a5 :: .int .u8 ((smD (((u1 % 100000000) % 10000 % 100) * 2)).toNat : Int) :: .int .u8 ((smD (((u1 % 100000000) % 10000 % 100) * 2 + 1)).toNat : Int) :: (bcells D ++ post)) (cs' := a0 :: a1 :: a2 :: a3 :: a4 :: .int .u8 ((smD (((u1 % 100000000) % 10000 / 100) * 2 + 1)).toNat : Int) :: .int .u8 ((smD (((u1 % 100000000) % 10000 % 100) * 2)).toNat : Int) :: .int .u8 ((smD (((u1 % 100000000) % 10000 % 100) * 2 + 1)).toNat : Int) :: (bcells D ++ post)) (k := 5) ty5 rf (by simp; omega) rf rf rf sss (by simp only [spl, spl_nil]) (by simp) ?_
  refine HL_indexAddrI rf Tryz.underlying55 ty5 rf rf (j := (X1.length + 8) - 4) rfl (by omega) ?_
  refine HL_storeAt (P0 := (pre ++ X1)) (cs := a0 :: a1 :: a2 :: a3 :: a4 :: .int .u8 ((smD (((u1 % 100000000) % 10000 / 100) * 2 + 1)).toNat : Int) :: .int .u8 ((smD (((u1 % 100000000) % 10000 % 100) * 2)).toNat : Int) :: .int .u8 ((smD (((u1 % 100000000) % 10000 % 100) * 2 + 1)).toNat : Int) :: (bcells D ++ post)) (cs' := a0 :: a1 :: a2 :: a3 :: .int .u8 ((smD (((u1 % 100000000) % 10000 / 100) * 2)).toNat : Int) :: .int .u8 ((smD (((u1 % 100000000) % 10000 / 100) * 2 + 1)).toNat : Int) :: .int .u8 ((smD (((u1 % 100000000) % 10000 % 100) * 2)).toNat : Int) :: .int .u8 ((smD (((u1 % 100000000) % 10000 % 100) * 2 + 1)).toNat : Int) :: (bcells D ++ post)) (k := 4) ty5 rf (by simp; omega) rf rf rf sss (by simp only [spl, spl_nil]) (by simp) ?_
  refine sq3 ?_
  refine hdp [(3, 71, .slice (some ⟨g, o, none⟩) n cap), (4, 72, .int .i64 (((X1.length + 8) : Nat) : Int)), (5, 73, .int .i64 (((X1.length + 8) - 6 : Nat) : Int)), (9, 77, .int .u32 ((((u1 % 100000000) / 10000 % 100) * 2 : Nat) : Int)), (10, 78, .int .u8 ((smD (((u1 % 100000000) / 10000 % 100) * 2)).toNat : Int))] 11 1 (fun jj R v => match jj with | 0 => v = .slice (some ⟨g, o, none⟩) n cap | 1 => v = .int .i64 (((X1.length + 8) : Nat) : Int) | 2 => v = .int .i64 (((X1.length + 8) - 5 : Nat) : Int) | 3 => v = .slice (some ⟨g, o, none⟩) n cap | 4 => v = .int .i64 (((X1.length + 8) : Nat) : Int) | 5 => v = .int .i64 (((X1.length + 8) - 6 : Nat) : Int) | 6 => v = .int .u32 ((((u1 % 100000000) / 10000 % 100) * 2 : Nat) : Int) | 7 => v = .int .u32 ((((u1 % 100000000) / 10000 % 100) * 2 + 1 : Nat) : Int) | 8 => v = .int .u8 ((smD (((u1 % 100000000) / 10000 % 100) * 2 + 1)).toNat : Int) | 9 => v = .int .u32 ((((u1 % 100000000) / 10000 % 100) * 2 : Nat) : Int) | 10 => v = .int .u8 ((smD (((u1 % 100000000) / 10000 % 100) * 2)).toNat : Int) | _ => True) [(0, []), (1, []), (2, [(1, 69)]), (3, []), (4, []), (5, [(4, 72)]), (6, []), (7, [(6, 74)]), (8, [(7, 75)]), (9, []), (10, [(9, 77)])] [(0, 68), (1, 69), (2, 70), (3, 71), (4, 72), (5, 73), (6, 74), (7, 75), (8, 76), (9, 77), (10, 78)] (.move rf rf rf (.move rf rf rf (.subN rf rf rf rf (by omega) (by omega) (.move rf rf rf (.indexS (s := smallsB) rf rf Tryz.underlying9 rf rf (small_get _ (by omega)) (.nil _)))))) ?_ ?_ ?_
  ·exact fun _ _ _ _ _ h => h
  ·refine ⟨dm, dm, ?_, dm, dm, ?_, dm, ?_, ?_, dm, ?_, trivial⟩
   ·intro R1 G hle; rintro _ rfl
    refine HL_subN (c := (X1.length + 8) - 5) rf rf rf (by omega) (by omega) dqn
   ·intro R1 G hle; rintro _ rfl
    refine HL_subN (c := (X1.length + 8) - 6) rf rf rf (by omega) (by omega) dqn
   ·intro R1 G hle; rintro _ rfl
    refine HL_addK (a := ((u1 % 100000000) / 10000 % 100) * 2) (b := 1) rf rf rf rfl (by first | (show _ < (256 : Nat); omega) | (show _ < (2147483648 : Nat); omega) | (show _ < (4294967296 : Nat); omega) | (show _ < (9223372036854775808 : Nat); omega) | (show _ < (18446744073709551616 : Nat); omega)) dqn
   ·intro R1 G hle; rintro _ rfl
    refine HL_indexSk (s := smallsB) rf Tryz.underlying9 rf rf (i := ((u1 % 100000000) / 10000 % 100) * 2 + 1) rfl (small_get _ (by omega)) dqn
   intro R1 G hle; rintro _ rfl
   refine HL_indexSk (s := smallsB) rf Tryz.underlying9 rf rf (i := ((u1 % 100000000) / 10000 % 100) * 2) rfl (small_get _ (by omega)) dqn
  intro R1 hle; iterate 11 rintro _ rfl
  have hle9 := zlt hle8 hle
  refine HL_indexAddrI rf Tryz.underlying55 ty5 rf rf (j := (X1.length + 8) - 5) rfl (by omega) ?_
  refine HL_storeAt (P0 := (pre ++ X1)) (cs := a0 :: a1 :: a2 :: a3 :: .int .u8 ((smD (((u1 % 100000000) % 10000 / 100) * 2)).toNat : Int) :: .int .u8 ((smD (((u1 % 100000000) % 10000 / 100) * 2 + 1)).toNat : Int) :: .int .u8 ((smD (((u1 % 100000000) % 10000 % 100) * 2)).toNat : Int) :: .int .u8 ((smD (((u1 % 100000000) % 10000 % 100) * 2 + 1)).toNat : Int) :: (bcells D ++ post)) (cs' := a0 :: a1 :: a2 :: .int .u8 ((smD (((u1 % 100000000) / 10000 % 100) * 2 + 1)).toNat : Int) :: .int .u8 ((smD (((u1 % 100000000) % 10000 / 100) * 2)).toNat : Int) :: .int .u8 ((smD (((u1 % 100000000) % 10000 / 100) * 2 + 1)).toNat : Int) :: .int .u8 ((smD (((u1 % 100000000) % 10000 % 100) * 2)).toNat : Int) :: .int .u8 ((smD (((u1 % 100000000) % 10000 % 100) * 2 + 1)).toNat : Int) :: (bcells D ++ post)) (k := 3) ty5 rf (by simp; omega) rf rf rf sss (by simp only [spl, spl_nil]) (by simp) ?_
  refine HL_indexAddrI rf Tryz.underlying55 ty5 rf rf (j := (X1.length + 8) - 6) rfl (by omega) ?_
  refine HL_storeAt (P0 := (pre ++ X1)) (cs := a0 :: a1 :: a2 :: .int .u8 ((smD (((u1 % 100000000) / 10000 % 100) * 2 + 1)).toNat : Int) :: .int .u8 ((smD (((u1 % 100000000) % 10000 / 100) * 2)).toNat : Int) :: .int .u8 ((smD (((u1 % 100000000) % 10000 / 100) * 2 + 1)).toNat : Int) :: .int .u8 ((smD (((u1 % 100000000) % 10000 % 100) * 2)).toNat : Int) :: .int .u8 ((smD (((u1 % 100000000) % 10000 % 100) * 2 + 1)).toNat : Int) :: (bcells D ++ post)) (cs' := a0 :: a1 :: .int .u8 ((smD (((u1 % 100000000) / 10000 % 100) * 2)).toNat : Int) :: .int .u8 ((smD (((u1 % 100000000) / 10000 % 100) * 2 + 1)).toNat : Int) :: .int .u8 ((smD (((u1 % 100000000) % 10000 / 100) * 2)).toNat : Int) :: .int .u8 ((smD (((u1 % 100000000) % 10000 / 100) * 2 + 1)).toNat : Int) :: .int .u8 ((smD (((u1 % 100000000) % 10000 % 100) * 2)).toNat : Int) :: .int .u8 ((smD (((u1 % 100000000) % 10000 % 100) * 2 + 1)).toNat : Int) :: (bcells D ++ post)) (k := 2) ty5 rf (by simp; omega) rf rf rf sss (by simp only [spl, spl_nil]) (by simp) ?_
  refine sq3 ?_
  refine hdp [(3, 84, .slice (some ⟨g, o, none⟩) n cap), (4, 85, .int .i64 (((X1.length + 8) : Nat) : Int)), (5, 86, .int .i64 (((X1.length + 8) - 8 : Nat) : Int)), (9, 90, .int .u32 ((((u1 % 100000000) / 10000 / 100) * 2 : Nat) : Int)), (10, 91, .int .u8 ((smD (((u1 % 100000000) / 10000 / 100) * 2)).toNat : Int))] 11 1 (fun jj R v => match jj with | 0 => v = .slice (some ⟨g, o, none⟩) n cap | 1 => v = .int .i64 (((X1.length + 8) : Nat) : Int) | 2 => v = .int .i64 (((X1.length + 8) - 7 : Nat) : Int) | 3 => v = .slice (some ⟨g, o, none⟩) n cap | 4 => v = .int .i64 (((X1.length + 8) : Nat) : Int) | 5 => v = .int .i64 (((X1.length + 8) - 8 : Nat) : Int) | 6 => v = .int .u32 ((((u1 % 100000000) / 10000 / 100) * 2 : Nat) : Int) | 7 => v = .int .u32 ((((u1 % 100000000) / 10000 / 100) * 2 + 1 : Nat) : Int) | 8 => v = .int .u8 ((smD (((u1 % 100000000) / 10000 / 100) * 2 + 1)).toNat : Int) | 9 => v = .int .u32 ((((u1 % 100000000) / 10000 / 100) * 2 : Nat) : Int) | 10 => v = .int .u8 ((smD (((u1 % 100000000) / 10000 / 100) * 2)).toNat : Int) | _ => True) [(0, []), (1, []), (2, [(1, 82)]), (3, []), (4, []), (5, [(4, 85)]), (6, []), (7, [(6, 87)]), (8, [(7, 88)]), (9, []), (10, [(9, 90)])] [(0, 81), (1, 82), (2, 83), (3, 84), (4, 85), (5, 86), (6, 87), (7, 88), (8, 89), (9, 90), (10, 91)] (.move rf rf rf (.move rf rf rf (.subN rf rf rf rf (by omega) (by omega) (.move rf rf rf (.indexS (s := smallsB) rf rf Tryz.underlying9 rf rf (small_get _ (by omega)) (.nil _)))))) ?_ ?_ ?_
  ·exact fun _ _ _ _ _ h => h
  ·refine ⟨dm, dm, ?_, dm, dm, ?_, dm, ?_, ?_, dm, ?_, trivial⟩
   ·intro R1 G hle; rintro _ rfl
    refine HL_subN (c := (X1.length + 8) - 7) rf rf rf (by omega) (by omega) dqn
   ·intro R1 G hle; rintro _ rfl
    refine HL_subN (c := (X1.length + 8) - 8) rf rf rf (by omega) (by omega) dqn
   ·intro R1 G hle; rintro _ rfl
    refine HL_addK (a := ((u1 % 100000000) / 10000 / 100) * 2) (b := 1) rf rf rf rfl (by first | (show _ < (256 : Nat); omega) | (show _ < (2147483648 : Nat); omega) | (show _ < (4294967296 : Nat); omega) | (show _ < (9223372036854775808 : Nat); omega) | (show _ < (18446744073709551616 : Nat); omega)) dqn
   ·intro R1 G hle; rintro _ rfl
    refine HL_indexSk (s := smallsB) rf Tryz.underlying9 rf rf (i := ((u1 % 100000000) / 10000 / 100) * 2 + 1) rfl (small_get _ (by omega)) dqn
   intro R1 G hle; rintro _ rfl
   refine HL_indexSk (s := smallsB) rf Tryz.underlying9 rf rf (i := ((u1 % 100000000) / 10000 / 100) * 2) rfl (small_get _ (by omega)) dqn
  intro R1 hle; iterate 11 rintro _ rfl
  have hle10 := zlt hle9 hle
  refine HL_indexAddrI rf Tryz.underlying55 ty5 rf rf (j := (X1.length + 8) - 7) rfl (by omega) ?_
  refine HL_storeAt (P0 := (pre ++ X1)) (cs := a0 :: a1 :: .int .u8 ((smD (((u1 % 100000000) / 10000 % 100) * 2)).toNat : Int) :: .int .u8 ((smD (((u1 % 100000000) / 10000 % 100) * 2 + 1)).toNat : Int) :: .int .u8 ((smD (((u1 % 100000000) % 10000 / 100) * 2)).toNat : Int) :: .int .u8 ((smD (((u1 % 100000000) % 10000 / 100) * 2 + 1)).toNat : Int) :: .int .u8 ((smD (((u1 % 100000000) % 10000 % 100) * 2)).toNat : Int) :: .int .u8 ((smD (((u1 % 100000000) % 10000 % 100) * 2 + 1)).toNat : Int) :: (bcells D ++ post)) (cs' := a0 :: .int .u8 ((smD (((u1 % 100000000) / 10000 / 100) * 2 + 1)).toNat : Int) :: .int .u8 ((smD (((u1 % 100000000) / 10000 % 100) * 2)).toNat : Int) :: .int .u8 ((smD (((u1 % 100000000) / 10000 % 100) * 2 + 1)).toNat : Int) :: .int .u8 ((smD (((u1 % 100000000) % 10000 / 100) * 2)).toNat : Int) :: .int .u8 ((smD (((u1 % 100000000) % 10000 / 100) * 2 + 1)).toNat : Int) :: .int .u8 ((smD (((u1 % 100000000) % 10000 % 100) * 2)).toNat : Int) :: .int .u8 ((smD (((u1 % 100000000) % 10000 % 100) * 2 + 1)).toNat : Int) :: (bcells D ++ post)) (k := 1) ty5 rf (by simp; omega) rf rf rf sss (by simp only [spl, spl_nil]) (by simp) ?_
  refine HL_indexAddrI rf Tryz.underlying55 ty5 rf rf (j := (X1.length + 8) - 8) rfl (by omega) ?_
  refine HL_storeAt (P0 := (pre ++ X1)) (cs := a0 :: .int .u8 ((smD (((u1 % 100000000) / 10000 / 100) * 2 + 1)).toNat : Int) :: .int .u8 ((smD (((u1 % 100000000) / 10000 % 100) * 2)).toNat : Int) :: .int .u8 ((smD (((u1 % 100000000) / 10000 % 100) * 2 + 1)).toNat : Int) :: .int .u8 ((smD (((u1 % 100000000) % 10000 / 100) * 2)).toNat : Int) :: .int .u8 ((smD (((u1 % 100000000) % 10000 / 100) * 2 + 1)).toNat : Int) :: .int .u8 ((smD (((u1 % 100000000) % 10000 % 100) * 2)).toNat : Int) :: .int .u8 ((smD (((u1 % 100000000) % 10000 % 100) * 2 + 1)).toNat : Int) :: (bcells D ++ post)) (cs' := .int .u8 ((smD (((u1 % 100000000) / 10000 / 100) * 2)).toNat : Int) :: .int .u8 ((smD (((u1 % 100000000) / 10000 / 100) * 2 + 1)).toNat : Int) :: .int .u8 ((smD (((u1 % 100000000) / 10000 % 100) * 2)).toNat : Int) :: .int .u8 ((smD (((u1 % 100000000) / 10000 % 100) * 2 + 1)).toNat : Int) :: .int .u8 ((smD (((u1 % 100000000) % 10000 / 100) * 2)).toNat : Int) :: .int .u8 ((smD (((u1 % 100000000) % 10000 / 100) * 2 + 1)).toNat : Int) :: .int .u8 ((smD (((u1 % 100000000) % 10000 % 100) * 2)).toNat : Int) :: .int .u8 ((smD (((u1 % 100000000) % 10000 % 100) * 2 + 1)).toNat : Int) :: (bcells D ++ post)) (k := 0) ty5 rf (by simp; omega) rf rf rf sss (by simp only [spl, spl_nil]) (by simp) ?_
  refine sq4 ?_
  refine HL_subN (c := X1.length) rf rf rf (by omega) (by omega) ?_
  refine sq3 ?_
  refine hqr1 X1.length ⟨X1, d8 (u1 % 100000000) ++ D, u1 / 100000000, by omega, ?_, by omega, rfl, rfl, by simp [bcells, d8, d4, d2], zlt hle2 hle10⟩
  rw [hfb, hX8, fb, if_pos (by omega), Nat.add_sub_cancel, List.append_assoc]
 have hlt : X.length < 8 := by have := of_decide_eq_false ht20; omega
 refine sq8 ?_
 refine HL_conv (z := ((u1 % 4294967296 : Nat) : Int)) rf ⟨_, Tryz.underlying48⟩ Tryz.underlying211 rf (by simp [IntKind.wrap, IntKind.signed, IntKind.bits]) ?_
 refine sq3 ?_
 refine HC_seq_cut (fun F' R' As' => ∃ (X : List Value) (D : List UInt8) (y : Nat), X.length < 4 ∧ X.length ≤ n ∧ fb n u = fb2 X.length y ++ D ∧ y < 4294967296 ∧ F' = [(0, .slice (some ⟨g, o, none⟩) n cap), (4, .int .i64 ((X.length : Nat) : Int)), (12, .int .u32 (y : Int))] ∧ As' = blk g (pre ++ (X ++ (bcells (D) ++ post))) TT :: As ∧ Frag.le R R') ?_ ?_
 ·refine HC_seq ?_
  have hfb4 : fb n u = fb4 X.length (u1 % 4294967296) ++ D := by rw [hfb, fb, if_neg (by omega)]
  have hy : u1 % 4294967296 < 4294967296 := Nat.mod_lt _ (by omega)
  obtain ⟨y, hyd⟩ : ∃ y, y = u1 % 4294967296 := ⟨_, rfl⟩
  rw [← hyd] at hfb4 hy ⊢
  refine sq5 ?_
  refine HC_cond rf (fun ht99 => ?_) (fun ht99 => ?_)
  ·obtain ⟨X1, a0, a1, a2, a3, rfl⟩ := last4 X (by have := of_decide_eq_true ht99; omega)
   have hX8 : (X1 ++ [a0, a1, a2, a3]).length = X1.length + 4 := by simp
   rw [hX8] at hX hlt hfb4 ⊢
   rw [show pre ++ (X1 ++ [a0, a1, a2, a3] ++ (bcells D ++ post)) = (pre ++ X1) ++ (a0 :: a1 :: a2 :: a3 :: (bcells D ++ post)) by simp]
   have hr : y % 10000 < 10000 := Nat.mod_lt _ (by omega)
   refine sq3 ?_
   refine HL_remK (a := y) (b := 10000) rf rf rf (by omega) ?_
   refine sq6 ?_
   refine HL_quoK (a := y) (b := 10000) rf rf rf (by omega) (by first | (show _ < (256 : Nat); omega) | (show _ < (2147483648 : Nat); omega) | (show _ < (4294967296 : Nat); omega) | (show _ < (9223372036854775808 : Nat); omega) | (show _ < (18446744073709551616 : Nat); omega)) ?_
   refine sq6 ?_
   refine HL_quoK (a := y % 10000) (b := 100) rf rf rf (by omega) (by first | (show _ < (256 : Nat); omega) | (show _ < (2147483648 : Nat); omega) | (show _ < (4294967296 : Nat); omega) | (show _ < (9223372036854775808 : Nat); omega) | (show _ < (18446744073709551616 : Nat); omega)) ?_
   refine HL_mulK (a := y % 10000 / 100) (b := 2) rf rf rf rfl (by first | (show _ < (256 : Nat); omega) | (show _ < (2147483648 : Nat); omega) | (show _ < (4294967296 : Nat); omega) | (show _ < (9223372036854775808 : Nat); omega) | (show _ < (18446744073709551616 : Nat); omega)) ?_
   refine HL_move rf rf ?_
   refine HL_remK (a := y % 10000) (b := 100) rf rf rf (by omega) ?_
   refine HL_mulK (a := y % 10000 % 100) (b := 2) rf rf rf rfl (by first | (show _ < (256 : Nat); omega) | (show _ < (2147483648 : Nat); omega) | (show _ < (4294967296 : Nat); omega) | (show _ < (9223372036854775808 : Nat); omega) | (show _ < (18446744073709551616 : Nat); omega)) ?_
   refine sq5 ?_
   refine hdp [(3, 113, .slice (some ⟨g, o, none⟩) n cap), (4, 114, .int .i64 (((X1.length + 4) : Nat) : Int)), (5, 115, .int .i64 (((X1.length + 4) - 2 : Nat) : Int)), (9, 119, .int .u32 (((y % 10000 % 100) * 2 : Nat) : Int)), (10, 120, .int .u8 ((smD ((y % 10000 % 100) * 2)).toNat : Int))] 11 1 (fun jj R v => match jj with | 0 => v = .slice (some ⟨g, o, none⟩) n cap | 1 => v = .int .i64 (((X1.length + 4) : Nat) : Int) | 2 => v = .int .i64 (((X1.length + 4) - 1 : Nat) : Int) | 3 => v = .slice (some ⟨g, o, none⟩) n cap | 4 => v = .int .i64 (((X1.length + 4) : Nat) : Int) | 5 => v = .int .i64 (((X1.length + 4) - 2 : Nat) : Int) | 6 => v = .int .u32 (((y % 10000 % 100) * 2 : Nat) : Int) | 7 => v = .int .u32 (((y % 10000 % 100) * 2 + 1 : Nat) : Int) | 8 => v = .int .u8 ((smD ((y % 10000 % 100) * 2 + 1)).toNat : Int) | 9 => v = .int .u32 (((y % 10000 % 100) * 2 : Nat) : Int) | 10 => v = .int .u8 ((smD ((y % 10000 % 100) * 2)).toNat : Int) | _ => True) [(0, []), (1, []), (2, [(1, 111)]), (3, []), (4, []), (5, [(4, 114)]), (6, []), (7, [(6, 116)]), (8, [(7, 117)]), (9, []), (10, [(9, 119)])] [(0, 110), (1, 111), (2, 112), (3, 113), (4, 114), (5, 115), (6, 116), (7, 117), (8, 118), (9, 119), (10, 120)] (.move rf rf rf (.move rf rf rf (.subN rf rf rf rf (by omega) (by omega) (.move rf rf rf (.indexS (s := smallsB) rf rf Tryz.underlying9 rf rf (small_get _ (by omega)) (.nil _)))))) ?_ ?_ ?_
   ·exact fun _ _ _ _ _ h => h
   ·refine ⟨dm, dm, ?_, dm, dm, ?_, dm, ?_, ?_, dm, ?_, trivial⟩
    ·intro R1 G hle; rintro _ rfl
     refine HL_subN (c := (X1.length + 4) - 1) rf rf rf (by omega) (by omega) dqn
    ·intro R1 G hle; rintro _ rfl
     refine HL_subN (c := (X1.length + 4) - 2) rf rf rf (by omega) (by omega) dqn
    ·intro R1 G hle; rintro _ rfl
     refine HL_addK (a := (y % 10000 % 100) * 2) (b := 1) rf rf rf rfl (by first | (show _ < (256 : Nat); omega) | (show _ < (2147483648 : Nat); omega) | (show _ < (4294967296 : Nat); omega) | (show _ < (9223372036854775808 : Nat); omega) | (show _ < (18446744073709551616 : Nat); omega)) dqn
    ·intro R1 G hle; rintro _ rfl
     refine HL_indexSk (s := smallsB) rf Tryz.underlying9 rf rf (i := (y % 10000 % 100) * 2 + 1) rfl (small_get _ (by omega)) dqn
    intro R1 G hle; rintro _ rfl
    refine HL_indexSk (s := smallsB) rf Tryz.underlying9 rf rf (i := (y % 10000 % 100) * 2) rfl (small_get _ (by omega)) dqn
   intro R1 hle; iterate 11 rintro _ rfl
   have hle17 := hle
   refine HL_indexAddrI rf Tryz.underlying55 ty5 rf rf (j := (X1.length + 4) - 1) rfl (by omega) ?_
   refine HL_storeAt (P0 := (pre ++ X1)) (cs := a0 :: a1 :: a2 :: a3 :: (bcells D ++ post)) (cs' := a0 :: a1 :: a2 :: .int .u8 ((smD ((y % 10000 % 100) * 2 + 1)).toNat : Int) :: (bcells D ++ post)) (k := 3) ty5 rf (by simp; omega) rf rf rf sss (by simp only [spl, spl_nil]) (by simp) ?_
   refine HL_indexAddrI rf Tryz.underlying55 ty5 rf rf (j := (X1.length + 4) - 2) rfl (by omega) ?_
   refine HL_storeAt (P0 := (pre ++ X1)) (cs := a0 :: a1 :: a2 :: .int .u8 ((smD ((y % 10000 % 100) * 2 + 1)).toNat : Int) :: (bcells D ++ post)) (cs' := a0 :: a1 :: .int .u8 ((smD ((y % 10000 % 100) * 2)).toNat : Int) :: .int .u8 ((smD ((y % 10000 % 100) * 2 + 1)).toNat : Int) :: (bcells D ++ post)) (k := 2) ty5 rf (by simp; omega) rf rf rf sss (by simp only [spl, spl_nil]) (by simp) ?_
   refine sq3 ?_
   refine hdp [(3, 126, .slice (some ⟨g, o, none⟩) n cap), (4, 127, .int .i64 (((X1.length + 4) : Nat) : Int)), (5, 128, .int .i64 (((X1.length + 4) - 4 : Nat) : Int)), (9, 132, .int .u32 (((y % 10000 / 100) * 2 : Nat) : Int)), (10, 133, .int .u8 ((smD ((y % 10000 / 100) * 2)).toNat : Int))] 11 1 (fun jj R v => match jj with | 0 => v = .slice (some ⟨g, o, none⟩) n cap | 1 => v = .int .i64 (((X1.length + 4) : Nat) : Int) | 2 => v = .int .i64 (((X1.length + 4) - 3 : Nat) : Int) | 3 => v = .slice (some ⟨g, o, none⟩) n cap | 4 => v = .int .i64 (((X1.length + 4) : Nat) : Int) | 5 => v = .int .i64 (((X1.length + 4) - 4 : Nat) : Int) | 6 => v = .int .u32 (((y % 10000 / 100) * 2 : Nat) : Int) | 7 => v = .int .u32 (((y % 10000 / 100) * 2 + 1 : Nat) : Int) | 8 => v = .int .u8 ((smD ((y % 10000 / 100) * 2 + 1)).toNat : Int) | 9 => v = .int .u32 (((y % 10000 / 100) * 2 : Nat) : Int) | 10 => v = .int .u8 ((smD ((y % 10000 / 100) * 2)).toNat : Int) | _ => True) [(0, []), (1, []), (2, [(1, 124)]), (3, []), (4, []), (5, [(4, 127)]), (6, []), (7, [(6, 129)]), (8, [(7, 130)]), (9, []), (10, [(9, 132)])] [(0, 123), (1, 124), (2, 125), (3, 126), (4, 127), (5, 128), (6, 129), (7, 130), (8, 131), (9, 132), (10, 133)] (.move rf rf rf (.move rf rf rf (.subN rf rf rf rf (by omega) (by omega) (.move rf rf rf (.indexS (s := smallsB) rf rf Tryz.underlying9 rf rf (small_get _ (by omega)) (.nil _)))))) ?_ ?_ ?_
   ·exact fun _ _ _ _ _ h => h
   ·refine ⟨dm, dm, ?_, dm, dm, ?_, dm, ?_, ?_, dm, ?_, trivial⟩
    ·intro R1 G hle; rintro _ rfl
     refine HL_subN (c := (X1.length + 4) - 3) rf rf rf (by omega) (by omega) dqn
    ·intro R1 G hle; rintro _ rfl
     refine HL_subN (c := (X1.length + 4) - 4) rf rf rf (by omega) (by omega) dqn
    ·intro R1 G hle; rintro _ rfl
     refine HL_addK (a := (y % 10000 / 100) * 2) (b := 1) rf rf rf rfl (by first | (show _ < (256 : Nat); omega) | (show _ < (2147483648 : Nat); omega) | (show _ < (4294967296 : Nat); omega) | (show _ < (9223372036854775808 : Nat); omega) | (show _ < (18446744073709551616 : Nat); omega)) dqn
    ·intro R1 G hle; rintro _ rfl
     refine HL_indexSk (s := smallsB) rf Tryz.underlying9 rf rf (i := (y % 10000 / 100) * 2 + 1) rfl (small_get _ (by omega)) dqn
    intro R1 G hle; rintro _ rfl
    refine HL_indexSk (s := smallsB) rf Tryz.underlying9 rf rf (i := (y % 10000 / 100) * 2) rfl (small_get _ (by omega)) dqn
   intro R1 hle; iterate 11 rintro _ rfl
   have hle18 := zlt hle17 hle
   refine HL_indexAddrI rf Tryz.underlying55 ty5 rf rf (j := (X1.length + 4) - 3) rfl (by omega) ?_
   refine HL_storeAt (P0 := (pre ++ X1)) (cs := a0 :: a1 :: .int .u8 ((smD ((y % 10000 % 100) * 2)).toNat : Int) :: .int .u8 ((smD ((y % 10000 % 100) * 2 + 1)).toNat : Int) :: (bcells D ++ post)) (cs' := a0 :: .int .u8 ((smD ((y % 10000 / 100) * 2 + 1)).toNat : Int) :: .int .u8 ((smD ((y % 10000 % 100) * 2)).toNat : Int) :: .int .u8 ((smD ((y % 10000 % 100) * 2 + 1)).toNat : Int) :: (bcells D ++ post)) (k := 1) ty5 rf (by simp; omega) rf rf rf sss (by simp only [spl, spl_nil]) (by simp) ?_
   refine HL_indexAddrI rf Tryz.underlying55 ty5 rf rf (j := (X1.length + 4) - 4) rfl (by omega) ?_
   refine HL_storeAt (P0 := (pre ++ X1)) (cs := a0 :: .int .u8 ((smD ((y % 10000 / 100) * 2 + 1)).toNat : Int) :: .int .u8 ((smD ((y % 10000 % 100) * 2)).toNat : Int) :: .int .u8 ((smD ((y % 10000 % 100) * 2 + 1)).toNat : Int) :: (bcells D ++ post)) (cs' := .int .u8 ((smD ((y % 10000 / 100) * 2)).toNat : Int) :: .int .u8 ((smD ((y % 10000 / 100) * 2 + 1)).toNat : Int) :: .int .u8 ((smD ((y % 10000 % 100) * 2)).toNat : Int) :: .int .u8 ((smD ((y % 10000 % 100) * 2 + 1)).toNat : Int) :: (bcells D ++ post)) (k := 0) ty5 rf (by simp; omega) rf rf rf sss (by simp only [spl, spl_nil]) (by simp) ?_
   refine sq4 ?_
   refine HL_subN (c := X1.length) rf rf rf (by omega) (by omega) ?_
   refine sq2 ?_
   refine hqc1 ⟨X1, d4 (y % 10000) ++ D, y / 10000, by omega, by omega, by rw [hfb4, fb4, if_pos (by omega), Nat.add_sub_cancel, List.append_assoc], by omega, rfl, by simp [bcells, d4, d2], zlt hle2 hle18⟩
  have hlt4 : X.length < 4 := by have := of_decide_eq_false ht99; omega
  refine HC_skip ?_
  refine hqc1 ⟨X, D, y, hlt4, hX, by rw [hfb4, fb4, if_neg (by omega)], hy, rfl, rfl, hle2⟩
 rintro F' R₃ As' ⟨X, D, y, hX4, hX, hfb2, hy, rfl, rfl, hle3⟩
 refine HC_seq_cut (fun F' R' As' => ∃ (X : List Value) (D : List UInt8) (y : Nat), X.length < 2 ∧ X.length ≤ n ∧ fb n u = fb1 X.length y ++ D ∧ y < 4294967296 ∧ F' = [(0, .slice (some ⟨g, o, none⟩) n cap), (4, .int .i64 ((X.length : Nat) : Int)), (12, .int .u32 (y : Int))] ∧ As' = blk g (pre ++ (X ++ (bcells (D) ++ post))) TT :: As ∧ Frag.le R R') ?_ ?_
 ·refine sq6 ?_
  refine HC_cond rf (fun ht139 => ?_) (fun ht139 => ?_)
  ·obtain ⟨X1, a0, a1, rfl⟩ := last2 X (by have := of_decide_eq_true ht139; omega)
   have hX8 : (X1 ++ [a0, a1]).length = X1.length + 2 := by simp
   rw [hX8] at hX hX4 hfb2 ⊢
   rw [show pre ++ (X1 ++ [a0, a1] ++ (bcells D ++ post)) = (pre ++ X1) ++ (a0 :: a1 :: (bcells D ++ post)) by simp]
   have hr : y % 100 < 100 := Nat.mod_lt _ (by omega)
   refine sq3 ?_
   refine HL_remK (a := y) (b := 100) rf rf rf (by omega) ?_
   refine HL_mulK (a := y % 100) (b := 2) rf rf rf rfl (by first | (show _ < (256 : Nat); omega) | (show _ < (2147483648 : Nat); omega) | (show _ < (4294967296 : Nat); omega) | (show _ < (9223372036854775808 : Nat); omega) | (show _ < (18446744073709551616 : Nat); omega)) ?_
   refine sq6 ?_
   refine HL_quoK (a := y) (b := 100) rf rf rf (by omega) (by first | (show _ < (256 : Nat); omega) | (show _ < (2147483648 : Nat); omega) | (show _ < (4294967296 : Nat); omega) | (show _ < (9223372036854775808 : Nat); omega) | (show _ < (18446744073709551616 : Nat); omega)) ?_
   refine sq4 ?_
   refine hdp [(3, 148, .slice (some ⟨g, o, none⟩) n cap), (4, 149, .int .i64 (((X1.length + 2) : Nat) : Int)), (5, 150, .int .i64 (((X1.length + 2) - 2 : Nat) : Int)), (9, 154, .int .u32 (((y % 100) * 2 : Nat) : Int)), (10, 155, .int .u8 ((smD ((y % 100) * 2)).toNat : Int))] 11 1 (fun jj R v => match jj with | 0 => v = .slice (some ⟨g, o, none⟩) n cap | 1 => v = .int .i64 (((X1.length + 2) : Nat) : Int) | 2 => v = .int .i64 (((X1.length + 2) - 1 : Nat) : Int) | 3 => v = .slice (some ⟨g, o, none⟩) n cap | 4 => v = .int .i64 (((X1.length + 2) : Nat) : Int) | 5 => v = .int .i64 (((X1.length + 2) - 2 : Nat) : Int) | 6 => v = .int .u32 (((y % 100) * 2 : Nat) : Int) | 7 => v = .int .u32 (((y % 100) * 2 + 1 : Nat) : Int) | 8 => v = .int .u8 ((smD ((y % 100) * 2 + 1)).toNat : Int) | 9 => v = .int .u32 (((y % 100) * 2 : Nat) : Int) | 10 => v = .int .u8 ((smD ((y % 100) * 2)).toNat : Int) | _ => True) [(0, []), (1, []), (2, [(1, 146)]), (3, []), (4, []), (5, [(4, 149)]), (6, []), (7, [(6, 151)]), (8, [(7, 152)]), (9, []), (10, [(9, 154)])] [(0, 145), (1, 146), (2, 147), (3, 148), (4, 149), (5, 150), (6, 151), (7, 152), (8, 153), (9, 154), (10, 155)] (.move rf rf rf (.move rf rf rf (.subN rf rf rf rf (by omega) (by omega) (.move rf rf rf (.indexS (s := smallsB) rf rf Tryz.underlying9 rf rf (small_get _ (by omega)) (.nil _)))))) ?_ ?_ ?_
   ·exact fun _ _ _ _ _ h => h
   ·refine ⟨dm, dm, ?_, dm, dm, ?_, dm, ?_, ?_, dm, ?_, trivial⟩
    ·intro R1 G hle; rintro _ rfl
     refine HL_subN (c := (X1.length + 2) - 1) rf rf rf (by omega) (by omega) dqn
    ·intro R1 G hle; rintro _ rfl
     refine HL_subN (c := (X1.length + 2) - 2) rf rf rf (by omega) (by omega) dqn
    ·intro R1 G hle; rintro _ rfl
     refine HL_addK (a := (y % 100) * 2) (b := 1) rf rf rf rfl (by first | (show _ < (256 : Nat); omega) | (show _ < (2147483648 : Nat); omega) | (show _ < (4294967296 : Nat); omega) | (show _ < (9223372036854775808 : Nat); omega) | (show _ < (18446744073709551616 : Nat); omega)) dqn
    ·intro R1 G hle; rintro _ rfl
     refine HL_indexSk (s := smallsB) rf Tryz.underlying9 rf rf (i := (y % 100) * 2 + 1) rfl (small_get _ (by omega)) dqn
    intro R1 G hle; rintro _ rfl
    refine HL_indexSk (s := smallsB) rf Tryz.underlying9 rf rf (i := (y % 100) * 2) rfl (small_get _ (by omega)) dqn
   intro R1 hle; iterate 11 rintro _ rfl
   have hle23 := hle
   refine HL_indexAddrI rf Tryz.underlying55 ty5 rf rf (j := (X1.length + 2) - 1) rfl (by omega) ?_
   refine HL_storeAt (P0 := (pre ++ X1)) (cs := a0 :: a1 :: (bcells D ++ post)) (cs' := a0 :: .int .u8 ((smD ((y % 100) * 2 + 1)).toNat : Int) :: (bcells D ++ post)) (k := 1) ty5 rf (by simp; omega) rf rf rf sss (by simp only [spl, spl_nil]) (by simp) ?_
   refine HL_indexAddrI rf Tryz.underlying55 ty5 rf rf (j := (X1.length + 2) - 2) rfl (by omega) ?_
   refine HL_storeAt (P0 := (pre ++ X1)) (cs := a0 :: .int .u8 ((smD ((y % 100) * 2 + 1)).toNat : Int) :: (bcells D ++ post)) (cs' := .int .u8 ((smD ((y % 100) * 2)).toNat : Int) :: .int .u8 ((smD ((y % 100) * 2 + 1)).toNat : Int) :: (bcells D ++ post)) (k := 0) ty5 rf (by simp; omega) rf rf rf sss (by simp only [spl, spl_nil]) (by simp) ?_
   refine sq4 ?_
   refine HL_subN (c := X1.length) rf rf rf (by omega) (by omega) ?_
   refine sq2 ?_
   refine hqc1 ⟨X1, d2 (y % 100) ++ D, y / 100, by omega, by omega, by rw [hfb2, fb2, if_pos (by omega), Nat.add_sub_cancel, List.append_assoc], by omega, rfl, by simp [bcells, d2], zlt hle3 hle23⟩
  have hlt2 : X.length < 2 := by have := of_decide_eq_false ht139; omega
  refine HC_skip ?_
  refine hqc1 ⟨X, D, y, hlt2, hX, by rw [hfb2, fb2, if_neg (by omega)], hy, rfl, rfl, hle3⟩
 rintro F' R₄ As' ⟨X, D, y, hX2, hX, hfb1, hy, rfl, rfl, hle4⟩
 refine sq6 ?_
 refine HC_cond rf (fun ht161 => ?_) (fun ht161 => ?_)
 ·obtain ⟨a0, rfl⟩ : ∃ a0, X = [a0] := by
   match X, hX2, (show 0 < X.length by have := of_decide_eq_true ht161; omega) with
   | [a], _, _ => exact ⟨a, rfl⟩
  refine HC_region ?_
  refine sq2 ?_
  refine HL_bin (r := .int .u32 (((48 + y) % 4294967296 : Nat) : Int)) rf rf rf (fun w => by simp [eqGuard, binOp, Op.intArith, IntKind.wrap, IntKind.signed, IntKind.bits]) ?_
  refine HL_conv (z := ((UInt8.ofNat (48 + y)).toNat : Int)) rf ⟨_, Tryz.underlying211⟩ Tryz.underlying5 rf (by simp [IntKind.wrap, IntKind.signed, IntKind.bits]) ?_
  refine HL_indexAddrI rf Tryz.underlying55 ty5 rf rf (j := 0) rfl (by simp at hX; omega) ?_
  refine HL_storeAt (P0 := pre) (cs := a0 :: (bcells D ++ post)) (cs' := .int .u8 ((UInt8.ofNat (48 + y)).toNat : Int) :: (bcells D ++ post)) (k := 0) ty5 rf (by omega) rf rf rf sss (by simp only [spl, spl_nil]) (by simp) ?_
  refine sq2 ?_
  exact fun w hs => ⟨_, _, _, rfl, hs, hle4, by rw [hfb1]; simp [fb1, bcells]⟩
 obtain rfl : X = [] := List.eq_nil_of_length_eq_zero (by have := of_decide_eq_false ht161; omega)
 refine sq2 ?_
 exact fun w hs => ⟨_, _, _, rfl, hs, hle4, by rw [hfb1]; simp [fb1, bcells]⟩
end Go.Sx

/-! Whole numbers as text. Printed by a program of ours (wip/tools/gM55.py) out of the steps of the code. -/
namespace Go.Sx
open Go Go.Proofs Go.RowKit
set_option maxHeartbeats 8000000

def len8B : ByteArray := ⟨#[0, 1, 2, 2, 3, 3, 3, 3, 4, 4, 4, 4, 4, 4, 4, 4, 5, 5, 5, 5, 5, 5, 5, 5, 5, 5, 5, 5, 5, 5, 5, 5, 6, 6, 6, 6, 6, 6, 6, 6, 6, 6, 6, 6, 6, 6, 6, 6, 6, 6, 6, 6, 6, 6, 6, 6, 6, 6, 6, 6, 6, 6, 6, 6, 7, 7, 7, 7, 7, 7, 7, 7, 7, 7, 7, 7, 7, 7, 7, 7, 7, 7, 7, 7, 7, 7, 7, 7, 7, 7, 7, 7, 7, 7, 7, 7, 7, 7, 7, 7, 7, 7, 7, 7, 7, 7, 7, 7, 7, 7, 7, 7, 7, 7, 7, 7, 7, 7, 7, 7, 7, 7, 7, 7, 7, 7, 7, 7, 8, 8, 8, 8, 8, 8, 8, 8, 8, 8, 8, 8, 8, 8, 8, 8, 8, 8, 8, 8, 8, 8, 8, 8, 8, 8, 8, 8, 8, 8, 8, 8, 8, 8, 8, 8, 8, 8, 8, 8, 8, 8, 8, 8, 8, 8, 8, 8, 8, 8, 8, 8, 8, 8, 8, 8, 8, 8, 8, 8, 8, 8, 8, 8, 8, 8, 8, 8, 8, 8, 8, 8, 8, 8, 8, 8, 8, 8, 8, 8, 8, 8, 8, 8, 8, 8, 8, 8, 8, 8, 8, 8, 8, 8, 8, 8, 8, 8, 8, 8, 8, 8, 8, 8, 8, 8, 8, 8, 8, 8, 8, 8, 8, 8, 8, 8, 8, 8, 8, 8, 8, 8, 8, 8, 8, 8, 8, 8]⟩
def len8 (x : Nat) : Nat := if x = 0 then 0 else if x < 2 then 1 else if x < 4 then 2 else if x < 8 then 3 else if x < 16 then 4 else if x < 32 then 5 else if x < 64 then 6 else if x < 128 then 7 else 8
theorem len8_get : ∀ i, i < 256 → len8B[i]? = some (UInt8.ofNat (len8 i)) := by decide +kernel
theorem len8_le (x : Nat) : len8 x ≤ 8 := by
 unfold len8
 repeat' split
 all_goals omega
def l32 (u : Nat) : Nat × Nat := if 4294967296 ≤ u then (u / 2 ^ 32, 32) else (u, 0)
def l16 (p : Nat × Nat) : Nat × Nat := if 65536 ≤ p.1 then (p.1 / 2 ^ 16, p.2 + 16) else p
def l8 (p : Nat × Nat) : Nat × Nat := if 256 ≤ p.1 then (p.1 / 2 ^ 8, p.2 + 8) else p
def len64 (u : Nat) : Nat := (l8 (l16 (l32 u))).2 + len8 (l8 (l16 (l32 u))).1
theorem l32_le {u : Nat} (h : u < 18446744073709551616) : (l32 u).1 < 4294967296 ∧ (l32 u).2 ≤ 32 := by
 unfold l32
 split
 ·exact ⟨by show u / 2 ^ 32 < _; omega, Nat.le_refl _⟩
 exact ⟨by show u < _; omega, Nat.zero_le 32⟩
theorem l16_le {p : Nat × Nat} (h : p.1 < 4294967296 ∧ p.2 ≤ 32) : (l16 p).1 < 65536 ∧ (l16 p).2 ≤ 48 := by
 unfold l16
 split
 ·exact ⟨by show p.1 / 2 ^ 16 < _; omega, by show p.2 + 16 ≤ 48; omega⟩
 exact ⟨by omega, by omega⟩
theorem l8_le {p : Nat × Nat} (h : p.1 < 65536 ∧ p.2 ≤ 48) : (l8 p).1 < 256 ∧ (l8 p).2 ≤ 56 := by
 unfold l8
 split
 ·exact ⟨by show p.1 / 2 ^ 8 < _; omega, by show p.2 + 8 ≤ 56; omega⟩
 exact ⟨by omega, by omega⟩
theorem len64_le {u : Nat} (h : u < 18446744073709551616) : len64 u ≤ 64 := by
 have := l8_le (l16_le (l32_le h))
 have h2 := len8_le (l8 (l16 (l32 u))).1
 unfold len64
 omega
def nDig (u : Nat) : Nat := if 10 ^ (len64 u * 78913 / 2 ^ 18) ≤ u then len64 u * 78913 / 2 ^ 18 + 1 else len64 u * 78913 / 2 ^ 18
theorem nDig_le {u : Nat} (h : u < 18446744073709551616) : nDig u ≤ 20 := by
 have := len64_le h
 unfold nDig
 split <;> omega
def powCells : List Value := (List.range 20).map fun i => .int .u64 ((10 ^ i : Nat) : Int)
def GlobI (R : Frag) : Prop := RdR R 3 0 20 powCells
theorem GlobI.mono {R R' : Frag} (h : GlobI R) (hle : Frag.le R R') : GlobI R' := RdR.mono hle h
theorem pow_rd {R : Frag} (h : GlobI R) {i : Nat} (hi : i < 20) : RdR R 3 (0 + i * 1) 1 [.int .u64 ((10 ^ i : Nat) : Int)] := by
 refine RdR.part h ?_
 rw [cut_eq]
 refine ⟨by simp [powCells]; omega, ?_⟩
 rw [List.drop_eq_getElem_cons (by simp [powCells]; omega)]
 simp [powCells]
def sm (i : Nat) : List UInt8 := if i < 10 then [UInt8.ofNat (48 + i)] else d2 i
def digB : ByteArray := ⟨#[48, 49, 50, 51, 52, 53, 54, 55, 56, 57, 97, 98, 99, 100, 101, 102, 103, 104, 105, 106, 107, 108, 109, 110, 111, 112, 113, 114, 115, 116, 117, 118, 119, 120, 121, 122]⟩
theorem sm_low : ∀ i, i < 10 → ((kb digB).drop i).take (i + 1 - i) = sm i := by decide +kernel
theorem sm_high : ∀ i, i < 100 → ¬ i < 10 → ((kb smallsB).drop (i * 2)).take (i * 2 + 2 - i * 2) = sm i := by decide +kernel
def decU (u : Nat) : List UInt8 := if u < 100 then sm u else fb (nDig u) u
def decI (i : Int) : List UInt8 := if 0 ≤ i then decU i.toNat else 45 :: decU (-i).toNat
theorem fb4_small : ∀ u, u < 100 → ¬ u = 0 → nDig u < 8 ∧ fb4 (nDig u) u = sm u := by decide +kernel
theorem fb_small {u : Nat} (h : ¬ u = 0) : fb (nDig u) u = decU u := by
 unfold decU
 split
 ·rename_i h2
  obtain ⟨h3, h4⟩ := fb4_small u h2 h
  rw [fb, if_neg (by omega), Nat.mod_eq_of_lt (by omega), h4]
 rfl
theorem decU_len {u : Nat} (h : u < 18446744073709551616) : (decU u).length ≤ 20 := by
 unfold decU sm d2
 repeat' split
 ·show 1 ≤ 20; omega
 ·show 2 ≤ 20; omega
 rw [fb_len]
 exact nDig_le h
theorem len269 {R : Frag} {u : Nat} (hu : u < 18446744073709551616) : Pure Tryz.prog 269 [.int .u64 (u : Int)] R (fun _ r => r = .int .i64 ((len64 u : Nat) : Int)) := by
 have h1 := l32_le hu
 have h2 := l16_le h1
 have h3 := l8_le h2
 have h4 := len8_le (l8 (l16 (l32 u))).1
 intro E As
 refine ten Tryz.func269 ?_
 refine sq5 ?_
 refine HC_seq_cut (fun F' R' As' => F' = [(0, .int .u64 (((l32 u).1 : Nat) : Int)), (2, .int .i64 (((l32 u).2 : Nat) : Int))] ∧ As' = As ∧ R' = R) ?_ ?_
 ·refine sq6 ?_
  refine HC_cond rf (fun ht4 => ?_) (fun ht4 => ?_)
  ·refine sq3 ?_
   refine HL_shrN (a := u) (n := 32) rf rf rf (by decide) ?_
   refine sq6 ?_
   exact HQ_cut [(0, .int .u64 (_ : Int)), (2, .int .i64 (_ : Int))] _ ⟨rfl, rfl, trivial⟩ (.refl _) ⟨by unfold l32; rw [if_pos (by have := of_decide_eq_true ht4; omega)]; rfl, rfl, rfl⟩
  refine HC_skip ?_
  exact HQ_cut [(0, .int .u64 (_ : Int)), (2, .int .i64 (_ : Int))] _ ⟨rfl, rfl, trivial⟩ (.refl _) ⟨by unfold l32; rw [if_neg (by have := of_decide_eq_false ht4; omega)]; rfl, rfl, rfl⟩
 rintro F' Ra As' ⟨rfl, hAs, hR⟩
 rw [hAs, hR]
 clear hAs hR As' Ra
 refine HC_seq_cut (fun F' R' As' => F' = [(0, .int .u64 (((l16 (l32 u)).1 : Nat) : Int)), (2, .int .i64 (((l16 (l32 u)).2 : Nat) : Int))] ∧ As' = As ∧ R' = R) ?_ ?_
 ·refine sq6 ?_
  refine HC_cond rf (fun ht8 => ?_) (fun ht8 => ?_)
  ·refine sq3 ?_
   refine HL_shrN (a := (l32 u).1) (n := 16) rf rf rf (by decide) ?_
   refine sq5 ?_
   refine HL_addK (a := (l32 u).2) (b := 16) rf rf rf rfl (by first | (show _ < (256 : Nat); omega) | (show _ < (2147483648 : Nat); omega) | (show _ < (4294967296 : Nat); omega) | (show _ < (9223372036854775808 : Nat); omega) | (show _ < (18446744073709551616 : Nat); omega)) ?_
   refine sq2 ?_
   exact HQ_cut [(0, .int .u64 (_ : Int)), (2, .int .i64 (_ : Int))] _ ⟨rfl, rfl, trivial⟩ (.refl _) ⟨by unfold l16; rw [if_pos (by have := of_decide_eq_true ht8; omega)], rfl, rfl⟩
  refine HC_skip ?_
  exact HQ_cut [(0, .int .u64 (_ : Int)), (2, .int .i64 (_ : Int))] _ ⟨rfl, rfl, trivial⟩ (.refl _) ⟨by unfold l16; rw [if_neg (by have := of_decide_eq_false ht8; omega)], rfl, rfl⟩
 rintro F' Rb As' ⟨rfl, hAs, hR⟩
 rw [hAs, hR]
 clear hAs hR As' Rb
 refine HC_seq_cut (fun F' R' As' => F' = [(0, .int .u64 (((l8 (l16 (l32 u))).1 : Nat) : Int)), (2, .int .i64 (((l8 (l16 (l32 u))).2 : Nat) : Int))] ∧ As' = As ∧ R' = R) ?_ ?_
 ·refine sq6 ?_
  refine HC_cond rf (fun ht14 => ?_) (fun ht14 => ?_)
  ·refine sq3 ?_
   refine HL_shrN (a := (l16 (l32 u)).1) (n := 8) rf rf rf (by decide) ?_
   refine sq5 ?_
   refine HL_addK (a := (l16 (l32 u)).2) (b := 8) rf rf rf rfl (by first | (show _ < (256 : Nat); omega) | (show _ < (2147483648 : Nat); omega) | (show _ < (4294967296 : Nat); omega) | (show _ < (9223372036854775808 : Nat); omega) | (show _ < (18446744073709551616 : Nat); omega)) ?_
   refine sq2 ?_
   exact HQ_cut [(0, .int .u64 (_ : Int)), (2, .int .i64 (_ : Int))] _ ⟨rfl, rfl, trivial⟩ (.refl _) ⟨by unfold l8; rw [if_pos (by have := of_decide_eq_true ht14; omega)], rfl, rfl⟩
  refine HC_skip ?_
  exact HQ_cut [(0, .int .u64 (_ : Int)), (2, .int .i64 (_ : Int))] _ ⟨rfl, rfl, trivial⟩ (.refl _) ⟨by unfold l8; rw [if_neg (by have := of_decide_eq_false ht14; omega)], rfl, rfl⟩
 rintro F' Rc As' ⟨rfl, hAs, hR⟩
 rw [hAs, hR]
 clear hAs hR As' Rc
 refine sq4 ?_
 refine HL_convN (a := (l8 (l16 (l32 u))).1) rf ⟨_, Tryz.underlying48⟩ Tryz.underlying5 rf (by first | (show _ < (256 : Nat); omega) | (show _ < (2147483648 : Nat); omega) | (show _ < (4294967296 : Nat); omega) | (show _ < (9223372036854775808 : Nat); omega) | (show _ < (18446744073709551616 : Nat); omega)) ?_
 refine HL_indexSk (s := len8B) rf Tryz.underlying9 rf rf (i := (l8 (l16 (l32 u))).1) rfl (len8_get _ h3.1) ?_
 rw [show ((UInt8.ofNat (len8 (l8 (l16 (l32 u))).1)).toNat : Int) = ((len8 (l8 (l16 (l32 u))).1 : Nat) : Int) by simp; omega]
 refine HL_convN (a := len8 (l8 (l16 (l32 u))).1) rf ⟨_, Tryz.underlying5⟩ Tryz.underlying3 rf (by first | (show _ < (256 : Nat); omega) | (show _ < (2147483648 : Nat); omega) | (show _ < (4294967296 : Nat); omega) | (show _ < (9223372036854775808 : Nat); omega) | (show _ < (18446744073709551616 : Nat); omega)) ?_
 refine HL_addK (a := (l8 (l16 (l32 u))).2) (b := len8 (l8 (l16 (l32 u))).1) rf rf rf rfl (by first | (show _ < (256 : Nat); omega) | (show _ < (2147483648 : Nat); omega) | (show _ < (4294967296 : Nat); omega) | (show _ < (9223372036854775808 : Nat); omega) | (show _ < (18446744073709551616 : Nat); omega)) ?_
 refine sq5 ?_
 exact zrp zlr rfl
theorem log268 {R : Frag} {x : Nat} (hx : x ≤ 100) : Pure Tryz.prog 268 [.int .i64 (x : Int)] R (fun _ r => r = .int .i64 ((x * 78913 / 2 ^ 18 : Nat) : Int)) := by
 intro E As
 refine ten Tryz.func268 ?_
 refine sq8 ?_
 refine HL_mulK (a := x) (b := 78913) rf rf rf rfl (by first | (show _ < (256 : Nat); omega) | (show _ < (2147483648 : Nat); omega) | (show _ < (4294967296 : Nat); omega) | (show _ < (9223372036854775808 : Nat); omega) | (show _ < (18446744073709551616 : Nat); omega)) ?_
 refine HL_shrN (a := x * 78913) (n := 18) rf rf rf (by decide) ?_
 refine sq5 ?_
 exact zrp zlr rfl
theorem bool270 {R : Frag} {b : Bool} : Pure Tryz.prog 270 [.bool b] R (fun _ r => r = .int .i64 ((bif b then 1 else 0 : Nat) : Int)) := by
 intro E As
 refine ten Tryz.func270 ?_
 refine sq11 ?_
 refine HC_cond rf (fun ht3 => ?_) (fun ht3 => ?_)
 ·subst ht3
  refine sq8 ?_
  exact zrp zlr rfl
 subst ht3
 refine sq9 ?_
 exact zrp zlr rfl
theorem nDig231 {R : Frag} {u : Nat} (hG : GlobI R) (hu : u < 18446744073709551616) : Pure Tryz.prog 231 [.int .u64 (u : Int)] R (fun _ r => r = .int .i64 ((nDig u : Nat) : Int)) := by
 have hl := len64_le hu
 have hn := nDig_le hu
 intro E As
 refine ten Tryz.func231 ?_
 refine sq8 ?_
 refine zlc rf (len269 hu _ _) ?_
 rintro vR₁ R₁ As1 ⟨hAs, hle1, rfl⟩
 rw [hAs]
 clear hAs As1
 refine zlc rf (log268 (by omega) _ _) ?_
 rintro vR₂ R₂ As1 ⟨hAs, hle2, rfl⟩
 rw [hAs]
 clear hAs As1
 have hle12 := zlt hle1 hle2
 refine sq8 ?_
 refine HL_indexAddr_arr rf Tryz.underlying306 ty48 rf rf (j := len64 u * 78913 / 2 ^ 18) (by omega) ?_
 refine HL_load_one rf ty48 rf (pow_rd (GlobI.mono hG hle12) (i := len64 u * 78913 / 2 ^ 18) (by omega)).rd ?_
 refine HL_geq rf rf rf ?_
 refine zlc rf (bool270 _ _) ?_
 rintro vR₃ R₃ As1 ⟨hAs, hle3, rfl⟩
 rw [hAs]
 clear hAs As1
 refine HL_addK (a := len64 u * 78913 / 2 ^ 18) (c := nDig u) rf rf rf (by
  unfold nDig
  by_cases h : 10 ^ (len64 u * 78913 / 2 ^ 18) ≤ u
  ·rw [if_pos h, decide_eq_true (by exact_mod_cast h)]; rfl
  rw [if_neg h, decide_eq_false (by exact_mod_cast h)]; rfl) (by first | (show _ < (256 : Nat); omega) | (show _ < (2147483648 : Nat); omega) | (show _ < (4294967296 : Nat); omega) | (show _ < (9223372036854775808 : Nat); omega) | (show _ < (18446744073709551616 : Nat); omega)) ?_
 refine sq5 ?_
 exact zrp (zlt hle12 hle3) rfl
theorem small230 {R : Frag} {i : Nat} (hi : i < 100) : Pure Tryz.prog 230 [.int .i64 (i : Int)] R (fun _ r => ∃ s, r = .string s ∧ kb s = sm i) := by
 intro E As
 refine ten Tryz.func230 ?_
 refine sq12 ?_
 refine HC_cond rf (fun ht4 => ?_) (fun ht4 => ?_)
 ·have hlt : i < 10 := by have := of_decide_eq_true ht4; omega
  refine sq4 ?_
  refine HL_addN (c := i + 1) rf rf rf (by omega) (by omega) ?_
  refine HL_sliceS (s := digB) rf Tryz.underlying9 rf rf rf (lo := i) (hi := i + 1) rfl rfl (by omega) (by show i + 1 ≤ 36; omega) ?_
  refine sq6 ?_
  exact zrp zlr ⟨_, rfl, by rw [kb_mid]; exact sm_low i hlt⟩
 have hge : ¬ i < 10 := by have := of_decide_eq_false ht4; omega
 refine sq5 ?_
 refine HL_mulN (c := i * 2) rf rf rf (by omega) (by omega) ?_
 refine HL_move rf rf ?_
 refine HL_mulN (c := i * 2) rf rf rf (by omega) (by omega) ?_
 refine HL_addN (c := i * 2 + 2) rf rf rf (by omega) (by omega) ?_
 refine HL_sliceS (s := smallsB) rf Tryz.underlying9 rf rf rf (lo := i * 2) (hi := i * 2 + 2) rfl rfl (by omega) (by show i * 2 + 2 ≤ 200; omega) ?_
 refine sq5 ?_
 exact zrp zlr ⟨_, rfl, by rw [kb_mid]; exact sm_high i hi hge⟩
end Go.Sx

/-! Whole numbers as text: AppendInt, FormatInt. Printed by a program of ours (wip/tools/gM56.py) out of the steps of the code. -/
namespace Go.Sx
open Go Go.Proofs Go.RowKit
set_option maxHeartbeats 8000000

theorem onesB (s : List UInt8) : ones (bcells s) = true := by
 unfold ones bcells
 rw [List.all_eq_true]
 intro x hx
 obtain ⟨c, _, rfl⟩ := List.mem_map.1 hx
 rfl
theorem spl_eq {cs vs : List Value} {n : Nat} (h : n + vs.length ≤ cs.length) : spl cs n vs = cs.take n ++ vs ++ cs.drop (n + vs.length) := by
 have e : cs = cs.take n ++ ((cs.drop n).take vs.length ++ cs.drop (n + vs.length)) := by
  rw [← List.drop_drop, List.take_append_drop, List.take_append_drop]
 have hl : (cs.take n).length = n := by simp; omega
 conv => lhs; rw [e]
 have h1 := spl_off (cs.take n) ((cs.drop n).take vs.length ++ cs.drop (n + vs.length)) vs 0
 rw [hl, Nat.add_zero] at h1
 rw [h1, spl_head _ _ _ (by simp; omega), List.append_assoc]
theorem spl_len {cs vs : List Value} {n : Nat} (h : n + vs.length ≤ cs.length) : (spl cs n vs).length = cs.length := by
 rw [spl_eq h]
 simp
 omega
theorem spl_spl {cs a b : List Value} {n : Nat} (h : n + a.length + b.length ≤ cs.length) : spl (spl cs n a) (n + a.length) b = spl cs n (a ++ b) := by
 have h1 : n + a.length ≤ cs.length := by omega
 rw [spl_eq (vs := b) (by rw [spl_len h1]; exact h), spl_eq h1, spl_eq (vs := a ++ b) (by simp; omega)]
 have hl : (cs.take n ++ a).length = n + a.length := by simp; omega
 rw [show (cs.take n ++ a ++ cs.drop (n + a.length)).take (n + a.length) = cs.take n ++ a from by rw [← hl]; exact List.take_left]
 rw [show (cs.take n ++ a ++ cs.drop (n + a.length)).drop (n + a.length + b.length) = cs.drop (n + (a ++ b).length) from by
  rw [← List.drop_drop, ← hl, List.drop_left, hl, List.drop_drop, List.length_append]
  congr 1
  omega]
 simp
theorem zeros24 {nd : Nat} (h : nd ≤ 24) : ([.int .u8 0, .int .u8 0, .int .u8 0, .int .u8 0, .int .u8 0, .int .u8 0, .int .u8 0, .int .u8 0, .int .u8 0, .int .u8 0, .int .u8 0, .int .u8 0, .int .u8 0, .int .u8 0, .int .u8 0, .int .u8 0, .int .u8 0, .int .u8 0, .int .u8 0, .int .u8 0, .int .u8 0, .int .u8 0, .int .u8 0, .int .u8 0] : List Value) = [] ++ (List.replicate nd (.int .u8 0) ++ List.replicate (24 - nd) (.int .u8 0)) := by
 rw [List.nil_append, List.replicate_append_replicate, show nd + (24 - nd) = 24 by omega]
 rfl
theorem zeros23 {nd : Nat} (h : nd ≤ 23) : ([.int .u8 0, .int .u8 0, .int .u8 0, .int .u8 0, .int .u8 0, .int .u8 0, .int .u8 0, .int .u8 0, .int .u8 0, .int .u8 0, .int .u8 0, .int .u8 0, .int .u8 0, .int .u8 0, .int .u8 0, .int .u8 0, .int .u8 0, .int .u8 0, .int .u8 0, .int .u8 0, .int .u8 0, .int .u8 0, .int .u8 0, .int .u8 0] : List Value) = [.int .u8 0] ++ (List.replicate nd (.int .u8 0) ++ List.replicate (23 - nd) (.int .u8 0)) := by
 rw [List.replicate_append_replicate, show nd + (23 - nd) = 23 by omega]
 rfl
theorem bcells_len (s : List UInt8) : (bcells s).length = s.length := by simp [bcells]
theorem appendU305 {R : Frag} {g n cap u TT : Nat} {cs : List Value} (hG : GlobI R) (hroom : n + (decU u).length ≤ cap) (hcs : n + (decU u).length ≤ cs.length) (hu : u < 18446744073709551616) (E : Env) (As : List Ent) :
  Tri Tryz.prog 305 [.slice (some ⟨g, 0, none⟩) n cap, .int .u64 (u : Int), .int .i64 10] E R (blk g cs TT :: As) (fun r R' As' => Frag.le R R' ∧ r = .slice (some ⟨g, 0, none⟩) (n + (decU u).length) cap ∧ As' = blk g (spl cs n (bcells (decU u))) TT :: As) := by
 refine ten Tryz.func305 ?_
 refine sq16 ?_
 refine sq4 ?_
 refine HC_cond rf (fun ht12 => ?_) (fun ht12 => ?_)
 ·have hlt : u < 100 := by have := of_decide_eq_true ht12; omega
  refine sq4 ?_
  refine HL_convN (a := u) rf ⟨_, Tryz.underlying48⟩ Tryz.underlying3 rf (by first | (show _ < (256 : Nat); omega) | (show _ < (2147483648 : Nat); omega) | (show _ < (4294967296 : Nat); omega) | (show _ < (9223372036854775808 : Nat); omega) | (show _ < (18446744073709551616 : Nat); omega)) ?_
  refine zlc rf (small230 hlt _ _) ?_
  rintro vR₁ R₁ As1 ⟨hAs, hle1, s, rfl, hs⟩
  rw [hAs]
  clear hAs As1
  have hsm : kb s = decU u := by rw [hs]; unfold decU; rw [if_pos hlt]
  have hsl : s.size = (decU u).length := by rw [← kbl, hsm]
  refine HL_appendS_room rf Tryz.underlying55 Tryz.underlying9 ty5 rf rf sss (by omega) (by omega) ?_
  refine sq7 ?_
  exact fun w hst => ⟨_, _, _, rfl, hst, hle1, by rw [← hsm, kbl], by rw [← hsm, spl_eq (by rw [bcells_len, kbl]; omega), bcells_len, kbl]⟩
 have hge : ¬ u < 100 := by have := of_decide_eq_false ht12; omega
 have hnd := nDig_le hu
 have hdl : (decU u).length = nDig u := by unfold decU; rw [if_neg hge, fb_len]
 refine sq4 ?_
 refine HL_alloc rf z268 rf (fun b7 => ?_)
 refine sq5 ?_
 refine zlc rf (nDig231 hG hu _ _) ?_
 rintro vR₁ R₁ As1 ⟨hAs, hle1, rfl⟩
 rw [hAs]
 clear hAs As1
 refine sq6 ?_
 refine HL_sliceArr_hi rf Tryz.underlying268 ty5 rf rf rf (hi := nDig u) rfl (by omega) ?_
 refine HL_move rf rf ?_
 rw [zeros24 (nd := nDig u) (by omega)]
 have hb := base232 (R := R₁) (g := b7) (o := 0) (cap := 24) (TT := 268) (pre := []) (old := List.replicate (nDig u) (.int .u8 0)) (post := List.replicate (24 - nDig u) (.int .u8 0)) (n := nDig u) (u := u) rfl (by simp) (by omega) hu E (blk g cs TT :: As)
 refine zlc rf hb ?_
 clear hb
 rintro v R₂ As1 ⟨hle2, hAs⟩
 rw [hAs]
 clear hAs As1
 refine sq6 ?_
 refine HL_sliceArr_hi rf Tryz.underlying268 ty5 rf rf rf (hi := nDig u) rfl (by omega) ?_
 refine HL_append_room (ys := bcells (fb (nDig u) u)) rf Tryz.underlying55 ty5 rf rf (.own mmm (by rw [cut_eq]; refine ⟨by simp [bcells_len, fb_len], by simp [bcells_len, fb_len]⟩)) (onesB _) (by rw [bcells_len, fb_len]) sss (by omega) (by omega) ?_
 refine sq6 ?_
 exact fun w hst => ⟨_, _, _, rfl, hst.drop .here, zlt hle1 hle2, by rw [show decU u = fb (nDig u) u by unfold decU; rw [if_neg hge], fb_len], by rw [show decU u = fb (nDig u) u by unfold decU; rw [if_neg hge]]⟩
theorem wrap_pos {i : Int} (h0 : 0 ≤ i) (h1 : i ≤ 9223372036854775807) : IntKind.u64.wrap i = ((i.natAbs : Nat) : Int) := by
 simp [IntKind.wrap, IntKind.signed, IntKind.bits]
 omega
theorem wrap_neg {i : Int} (h0 : i < 0) (h1 : -9223372036854775808 ≤ i) : IntKind.u64.wrap (0 - IntKind.u64.wrap i) = ((i.natAbs : Nat) : Int) := by
 simp [IntKind.wrap, IntKind.signed, IntKind.bits]
 omega
theorem decI_pos {i : Int} (h : 0 ≤ i) : decI i = decU i.natAbs := by
 unfold decI
 rw [if_pos h, show i.toNat = i.natAbs by omega]
theorem decI_neg {i : Int} (h : i < 0) : decI i = 45 :: decU i.natAbs := by
 unfold decI
 rw [if_neg (by omega), show (-i).toNat = i.natAbs by omega]
theorem appendI286 {R : Frag} {g n cap TT : Nat} {i : Int} {cs : List Value} (hG : GlobI R) (hroom : n + (decI i).length ≤ cap) (hcs : n + (decI i).length ≤ cs.length) (hi : -9223372036854775808 ≤ i ∧ i ≤ 9223372036854775807) (E : Env) (As : List Ent) :
  Tri Tryz.prog 286 [.slice (some ⟨g, 0, none⟩) n cap, .int .i64 i, .int .i64 10] E R (blk g cs TT :: As) (fun r R' As' => Frag.le R R' ∧ r = .slice (some ⟨g, 0, none⟩) (n + (decI i).length) cap ∧ As' = blk g (spl cs n (bcells (decI i))) TT :: As) := by
 refine ten Tryz.func286 ?_
 refine sq8 ?_
 refine HL_conv (z := (IntKind.u64.wrap i)) rf ⟨_, Tryz.underlying2⟩ Tryz.underlying48 rf rfl ?_
 refine sq3 ?_
 refine HC_seq_cut (fun F' R' As' => ∃ (n1 : Nat) (cs1 : List Value), F' = [(0, .slice (some ⟨g, 0, none⟩) n1 cap), (2, .int .i64 10), (7, .int .u64 ((i.natAbs : Nat) : Int))] ∧ As' = blk g cs1 TT :: As ∧ R' = R ∧ n1 + (decU i.natAbs).length ≤ cap ∧ n1 + (decU i.natAbs).length ≤ cs1.length ∧ n1 + (decU i.natAbs).length = n + (decI i).length ∧ spl cs1 n1 (bcells (decU i.natAbs)) = spl cs n (bcells (decI i))) ?_ ?_
 ·refine sq6 ?_
  refine HC_cond rf (fun ht11 => ?_) (fun ht11 => ?_)
  ·have hneg : i < 0 := of_decide_eq_true ht11
   have hdl : (decI i).length = (decU i.natAbs).length + 1 := by rw [decI_neg hneg]; rfl
   refine sq3 ?_
   refine HL_buildSlice1 rf Tryz.underlying55 ty5 z5 rf rf (vs := [.int .u8 45]) rf rf (fun bn => ?_)
   refine HL_append_room (ys := [.int .u8 45]) rf Tryz.underlying55 ty5 rf rf (.own mmm rf) rf rf sss (by omega) (by omega) ?_
   refine HL_drop .here ?_
   refine sq5 ?_
   refine HL_negK (z := ((i.natAbs : Nat) : Int)) rf rf (wrap_neg hneg hi.1) ?_
   refine sq2 ?_
   exact HQ_cut [(0, .slice (some ⟨g, 0, none⟩) (n + 1) cap), (2, .int .i64 10), (7, .int .u64 ((i.natAbs : Nat) : Int))] _ ⟨rfl, rfl, rfl, trivial⟩ (.refl _) ⟨n + 1, _, rfl, rfl, rfl, by omega, by rw [spl_len (by simp; omega)]; omega, by rw [decI_neg hneg, List.length_cons]; omega, by rw [decI_neg hneg]; exact spl_spl (a := [.int .u8 45]) (by rw [bcells_len]; have := decU_len (u := i.natAbs) (by omega); simp; omega)⟩
  have hpos : 0 ≤ i := by have := of_decide_eq_false ht11; omega
  have hdl : (decI i).length = (decU i.natAbs).length := by rw [decI_pos hpos]
  refine HC_skip ?_
  exact HQ_cut [(0, .slice (some ⟨g, 0, none⟩) n cap), (2, .int .i64 10), (7, .int .u64 ((i.natAbs : Nat) : Int))] _ (by rw [← wrap_pos hpos hi.2]; exact ⟨rfl, rfl, rfl, trivial⟩) (.refl _) ⟨n, cs, rfl, rfl, rfl, by omega, by omega, by rw [decI_pos hpos], by rw [decI_pos hpos]⟩
 rintro F' R' As' ⟨n1, cs1, rfl, rfl, rfl, hr1, hc1, hn1, hs1⟩
 refine sq5 ?_
 refine zlc rf (appendU305 (u := i.natAbs) hG hr1 hc1 (by omega) E _) ?_
 rintro v R₁ As1 ⟨hle1, rfl, hAs⟩
 rw [hAs]
 clear hAs As1
 refine sq5 ?_
 exact fun w hst => ⟨_, _, _, rfl, hst, hle1, by rw [hn1], by rw [hs1]⟩
theorem appendI263 {R : Frag} {g n cap TT : Nat} {i : Int} {cs : List Value} (hG : GlobI R) (hroom : n + (decI i).length ≤ cap) (hcs : n + (decI i).length ≤ cs.length) (hi : -9223372036854775808 ≤ i ∧ i ≤ 9223372036854775807) (E : Env) (As : List Ent) :
  Tri Tryz.prog 263 [.slice (some ⟨g, 0, none⟩) n cap, .int .i64 i, .int .i64 10] E R (blk g cs TT :: As) (fun r R' As' => Frag.le R R' ∧ r = .slice (some ⟨g, 0, none⟩) (n + (decI i).length) cap ∧ As' = blk g (spl cs n (bcells (decI i))) TT :: As) := by
 refine ten Tryz.func263 ?_
 refine sq10 ?_
 refine zlc rf (appendI286 hG hroom hcs hi E _) ?_
 rintro v R₁ As1 ⟨hle1, rfl, hAs⟩
 rw [hAs]
 clear hAs As1
 refine sq5 ?_
 exact fun w hst => ⟨_, _, _, rfl, hst, hle1, rfl, rfl⟩
theorem formatI168 {R : Frag} {i : Int} (hG : GlobI R) (hi : -9223372036854775808 ≤ i ∧ i ≤ 9223372036854775807) : Pure Tryz.prog 168 [.int .i64 i, .int .i64 10] R (fun _ r => ∃ s, r = .string s ∧ kb s = decI i) := by
 intro E As
 refine ten Tryz.func168 ?_
 refine sq16 ?_
 refine sq2 ?_
 refine HL_segp 4 17 (fun c => c = true ↔ (0 ≤ i ∧ i < 100)) ?_ ?_
 ·refine HL_move_b rf rf (fun hb14 => ?_) (fun hb14 => ?_)
  ·refine sq6 ?_
   exact zsp (h := by simp at hb14 ⊢; omega)
  refine sq4 ?_
  exact zsp (h := by simp at hb14 ⊢; omega)
 intro c17 hx17
 refine HL_nil ?_
 refine HQ_then ?_
 refine HC_cond rf (fun ht17 => ?_) (fun ht17 => ?_)
 ·obtain ⟨h0, h100⟩ := hx17.1 ht17
  obtain ⟨k, rfl⟩ : ∃ k : Nat, i = (k : Int) := ⟨i.toNat, by omega⟩
  refine sq3 ?_
  refine zlc rf (small230 (i := k) (by omega) _ _) ?_
  rintro vR₁ R₁ As1 ⟨hAs, hle1, s, rfl, hs⟩
  rw [hAs]
  clear hAs As1
  refine sq7 ?_
  exact fun w hst => ret_pure hst ttt hle1 ⟨_, rfl, by rw [hs, decI_pos (by omega)]; unfold decU; rw [show (k : Int).natAbs = k by omega, if_pos (by omega)]⟩
 have hno : ¬ (0 ≤ i ∧ i < 100) := fun e => by
  rw [hx17.2 e] at ht17
  cases ht17
 have hnd := nDig_le (u := i.natAbs) (by omega)
 refine sq4 ?_
 refine HL_alloc rf z268 rf (fun b5 => ?_)
 refine sq5 ?_
 refine HL_conv (z := (IntKind.u64.wrap i)) rf ⟨_, Tryz.underlying2⟩ Tryz.underlying48 rf rfl ?_
 refine sq3 ?_
 refine HC_seq_cut (fun F' R' As' => F' = [(0, .int .i64 i), (5, .pointer (some ⟨b5, 0, none⟩)), (6, .int .u64 ((i.natAbs : Nat) : Int))] ∧ As' = blk b5 [.int .u8 0, .int .u8 0, .int .u8 0, .int .u8 0, .int .u8 0, .int .u8 0, .int .u8 0, .int .u8 0, .int .u8 0, .int .u8 0, .int .u8 0, .int .u8 0, .int .u8 0, .int .u8 0, .int .u8 0, .int .u8 0, .int .u8 0, .int .u8 0, .int .u8 0, .int .u8 0, .int .u8 0, .int .u8 0, .int .u8 0, .int .u8 0] 268 :: As ∧ R' = R) ?_ ?_
 ·refine sq6 ?_
  refine HC_cond rf (fun ht23 => ?_) (fun ht23 => ?_)
  ·have hneg : i < 0 := of_decide_eq_true ht23
   refine sq2 ?_
   refine HL_negK (z := ((i.natAbs : Nat) : Int)) rf rf (wrap_neg hneg hi.1) ?_
   refine sq2 ?_
   refine hqc1 ⟨rfl, rfl, rfl⟩
  have hpos : 0 ≤ i := by have := of_decide_eq_false ht23; omega
  refine HC_skip ?_
  exact HQ_cut [(0, .int .i64 i), (5, .pointer (some ⟨b5, 0, none⟩)), (6, .int .u64 ((i.natAbs : Nat) : Int))] _ (by rw [← wrap_pos hpos hi.2]; exact ⟨rfl, rfl, rfl, trivial⟩) (.refl _) ⟨rfl, rfl, rfl⟩
 rintro F' R' As' ⟨rfl, rfl, rfl⟩
 refine sq3 ?_
 refine zlc rf (nDig231 (u := i.natAbs) hG (by omega) _ _) ?_
 rintro vR₁ R₁ As1 ⟨hAs, hle1, rfl⟩
 rw [hAs]
 clear hAs As1
 refine sq6 ?_
 refine HL_addN (c := 1 + nDig i.natAbs) rf rf rf (by omega) (by omega) ?_
 refine HL_sliceArr_lohi rf Tryz.underlying268 ty5 rf rf rf (lo := 1) (hi := 1 + nDig i.natAbs) rfl rfl (by omega) (by omega) (by omega) ?_
 rw [Nat.add_sub_cancel_left]
 refine HL_move rf rf ?_
 rw [zeros23 (nd := nDig i.natAbs) (by omega)]
 have hb := base232 (R := R₁) (g := b5) (o := 0 + 1 * 1) (cap := 24 - 1) (TT := 268) (pre := [.int .u8 0]) (old := List.replicate (nDig i.natAbs) (.int .u8 0)) (post := List.replicate (23 - nDig i.natAbs) (.int .u8 0)) (n := nDig i.natAbs) (u := i.natAbs) rfl (by simp) (by omega) (by omega) E As
 refine zlc rf hb ?_
 clear hb
 rintro v R₂ As1 ⟨hle2, hAs⟩
 rw [hAs]
 clear hAs As1
 have hle12 := zlt hle1 hle2
 refine sq9 ?_
 refine HC_cond rf (fun ht34 => ?_) (fun ht34 => ?_)
 ·have hneg : i < 0 := of_decide_eq_true ht34
  refine sq2 ?_
  refine HL_indexAddr_arr rf Tryz.underlying268 ty5 rf rf (j := 0) (by omega) ?_
  refine HL_storeAt (P0 := []) (cs := .int .u8 0 :: (bcells (fb (nDig i.natAbs) i.natAbs) ++ List.replicate (23 - nDig i.natAbs) (.int .u8 0))) (cs' := .int .u8 45 :: (bcells (fb (nDig i.natAbs) i.natAbs) ++ List.replicate (23 - nDig i.natAbs) (.int .u8 0))) (k := 0) ty5 rf rf rf rf rf sss (by simp only [spl, spl_nil]) (by simp) ?_
  refine sq5 ?_
  refine HL_addN (c := 1 + nDig i.natAbs) rf rf rf (by omega) (by omega) ?_
  refine HL_sliceArr_hi rf Tryz.underlying268 ty5 rf rf rf (hi := 1 + nDig i.natAbs) rfl (by omega) ?_
  refine HL_bytesStr (s := 45 :: fb (nDig i.natAbs) i.natAbs) rf Tryz.underlying55 Tryz.underlying5 Tryz.underlying9 rf (.own mmm (by rw [cut_eq]; refine ⟨by simp [bcells_len, fb_len]; omega, ?_⟩; rw [List.drop_zero, List.nil_append, Nat.add_comm 1, List.take_succ_cons, List.take_append_of_le_length (by rw [bcells_len, fb_len]; exact Nat.le_refl _), List.take_of_length_le (by rw [bcells_len, fb_len]; exact Nat.le_refl _)]; rfl)) ?_
  refine sq7 ?_
  exact fun w hst => ret_pure hst ttt hle12 ⟨_, rfl, by rw [decI_neg hneg, fb_small (by omega)]; rfl⟩
 have hpos : 0 ≤ i := by have := of_decide_eq_false ht34; omega
 refine sq5 ?_
 refine HL_addN (c := 1 + nDig i.natAbs) rf rf rf (by omega) (by omega) ?_
 refine HL_sliceArr_lohi rf Tryz.underlying268 ty5 rf rf rf (lo := 1) (hi := 1 + nDig i.natAbs) rfl rfl (by omega) (by omega) (by omega) ?_
 rw [Nat.add_sub_cancel_left]
 refine HL_bytesStr (s := fb (nDig i.natAbs) i.natAbs) rf Tryz.underlying55 Tryz.underlying5 Tryz.underlying9 rf (.own mmm (by rw [cut_eq]; refine ⟨by simp [bcells_len, fb_len]; omega, ?_⟩; show _ = List.take _ (bcells (fb (nDig i.natAbs) i.natAbs) ++ _); rw [List.take_append_of_le_length (by rw [bcells_len, fb_len]; exact Nat.le_refl _), List.take_of_length_le (by rw [bcells_len, fb_len]; exact Nat.le_refl _)])) ?_
 refine sq6 ?_
 exact fun w hst => ret_pure hst ttt hle12 ⟨_, rfl, by rw [decI_pos hpos]; unfold decU; rw [if_neg (by omega)]; rfl⟩
theorem formatI90 {R : Frag} {i : Int} (hG : GlobI R) (hi : -9223372036854775808 ≤ i ∧ i ≤ 9223372036854775807) : Pure Tryz.prog 90 [.int .i64 i, .int .i64 10] R (fun _ r => ∃ s, r = .string s ∧ kb s = decI i) := by
 intro E As
 refine ten Tryz.func90 ?_
 refine sq9 ?_
 refine zlc rf (formatI168 hG hi _ _) ?_
 rintro vR₁ R₁ As1 ⟨hAs, hle1, s, rfl, hs⟩
 rw [hAs]
 clear hAs As1
 refine sq5 ?_
 exact fun w hst => ret_pure hst ttt hle1 ⟨_, rfl, hs⟩
end Go.Sx
