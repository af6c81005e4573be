/- What one operation does, form by form: addresses, loads, stores, arithmetic, conversions, slices, calls. Conditions: those of each operation; over any program. -/
import Derived.Test.YtfaopfaghnefdaaDoorBase
import Derived.Deep.MidRow
import Derived.Laws.Entries
namespace Go.Proofs.YtfaopfaghnefdaaDoor
open Go
section
variable {P : Program} {ρ : Operand → Value} {w : World} {dst : Option Tmp} {ty : TypeId} {pos : String} {af : Array Edge} {gd : Option (Nat × Bool)}

theorem r_move {x : Operand} : (execOp ρ ⟨dst, .move x, ty, pos, af, gd⟩).run P w = .ok (.value (ρ x)) w := rfl
theorem r_assign {x : Operand} : (execOp ρ ⟨dst, .assign x, ty, pos, af, gd⟩).run P w = .ok (.value (ρ x)) w := rfl
theorem r_nil {x : Operand} {a : Addr} (hx : ρ x = .pointer (some a)) : (execOp ρ ⟨dst, .nilCheck x, ty, pos, af, gd⟩).run P w = .ok (.value (.pointer (some a))) w := by
  simp only [execOp, hx]; rfl
theorem add_mid (b o j : Nat) : (⟨b, o, none⟩ : Addr).add j = ⟨b, o + j, none⟩ := by
  unfold Addr.add
  split
  · rename_i h; subst h; rfl
  · rfl

/-- Type t has s cells. -/
def SizeIs (P : Program) (t s : Nat) : Prop := (P.info? t).map (·.size) = some s
theorem run_sizeOf {t s : Nat} (h : SizeIs P t s) : (sizeOf t).run P w = .ok s w := by
  unfold SizeIs at h
  cases hq : P.info? t with
  | none => simp [hq] at h
  | some i =>
    have hs : i.size = s := by simpa [hq] using h
    simp [sizeOf, typeInfo, hq, hs]
theorem run_under {t : Nat} {d : TypeDesc} (h : P.underlying t = some d) : (underlying t).run P w = .ok d w := by
  simp [underlying, h]
def FieldAt (P : Program) (s fld off : Nat) : Prop := ∃ fs f n, P.underlying s = some (.struct fs) ∧ fs[fld]? = some f ∧ f.offset = off ∧ SizeIs P f.type (n + 1)
theorem r_field {x : Operand} {s fld off b o : Nat} (hx : ρ x = .pointer (some ⟨b, o, none⟩)) (h : FieldAt P s fld off) :
    (execOp ρ ⟨dst, .fieldAddr s x fld, ty, pos, af, gd⟩).run P w = .ok (.value (.pointer (some ⟨b, o + off, none⟩))) w := by
  obtain ⟨fs, f, n, hs, hf, ho, hz⟩ := h
  have hz' := fun w => run_sizeOf (w := w) hz
  have hs' := fun w => run_under (w := w) hs
  simp [execOp, Instr.fieldAt, hs', hf, hx, Instr.sureAddr, fieldPlace, hz', add_mid, ho]
def ArrAt (P : Program) (t len es : Nat) : Prop := ∃ e, P.underlying t = some (.array len e) ∧ SizeIs P e es
def SlcAt (P : Program) (t es : Nat) : Prop := ∃ e, P.underlying t = some (.slice e) ∧ SizeIs P e es
theorem r_index_arr {x ix : Operand} {t len es b o : Nat} {kd : IntKind} {i : Int} (hx : ρ x = .pointer (some ⟨b, o, none⟩)) (hi : ρ ix = .int kd i) (h : ArrAt P t len es) (h0 : 0 ≤ i) (h1 : i < (len : Int)) :
    (execOp ρ ⟨dst, .indexAddr t x ix, ty, pos, af, gd⟩).run P w = .ok (.value (.pointer (some ⟨b, o + i.toNat * es, none⟩))) w := by
  obtain ⟨e, hs, hz⟩ := h
  have hz' := fun w => run_sizeOf (w := w) hz
  have hs' := fun w => run_under (w := w) hs
  simp [execOp, Instr.indexAt, hs', hx, hi, Instr.sureAddr, asIntOf, hz', add_mid, h0, h1]
theorem r_index_slc {x ix : Operand} {t es b o n c : Nat} {kd : IntKind} {i : Int} (hx : ρ x = .slice (some ⟨b, o, none⟩) n c) (hi : ρ ix = .int kd i) (h : SlcAt P t es) (h0 : 0 ≤ i) (h1 : i < (n : Int)) :
    (execOp ρ ⟨dst, .indexAddr t x ix, ty, pos, af, gd⟩).run P w = .ok (.value (.pointer (some ⟨b, o + i.toNat * es, none⟩))) w := by
  obtain ⟨e, hs, hz⟩ := h
  have hz' := fun w => run_sizeOf (w := w) hz
  have hs' := fun w => run_under (w := w) hs
  simp [execOp, Instr.indexAt, hs', hx, hi, asIntOf, hz', add_mid, h0, h1]
/-- A type of one cell that is no aggregate. -/
def OneC (P : Program) (t : Nat) : Prop := ∃ d, P.underlying t = some d ∧ (match d with | .struct _ | .array _ _ => false | _ => true) = true ∧ SizeIs P t 1
theorem OneC.agg {t : Nat} (h : OneC P t) : (isAgg t).run P w = .ok false w := by
  obtain ⟨d, hd, hm, _⟩ := h
  unfold isAgg
  rw [Sem.run_bind, run_under hd]
  cases d <;> simp_all
theorem r_load {x : Operand} {t : Nat} {a : Addr} {v : Value} (hx : ρ x = .pointer (some a)) (h : OneC P t) (hc : w.cell? a = some v) :
    (execOp ρ ⟨dst, .load t x, ty, pos, af, gd⟩).run P w = .ok (.value v) w := by
  have ha := fun w => h.agg (w := w)
  simp [execOp, Instr.loadAt, hx, Instr.sureAddr, loadVar, ha, hc]
theorem run_storeVar1 {t : Nat} {a : Addr} {v u : Value} (h : OneC P t) (hv : v.oneCell' = true) (hc : w.cell? a = some u) (hf : w.frozen? a = false) :
    (storeVar t a v).run P w = .ok () (w.setCell a v) := by
  obtain ⟨d, hd, hm, hz⟩ := h
  have hz' := fun w => run_sizeOf (w := w) hz
  have hcs : v.cells = #[v] := by cases v <;> simp_all [Value.cells, Value.oneCell']
  have hadd : a.add 0 = a := by simp [Addr.add]
  unfold storeVar
  rw [Sem.run_bind, hz']
  simp only [Result.andThen_ok, hcs]
  simp only [List.size_toArray, List.length_cons, List.length_nil, Nat.zero_add, ne_eq, not_true_eq_false, if_false]
  simp [storeCells, hadd, run_store P w a v _ hv, hc, hf]
theorem r_store {x y : Operand} {t : Nat} {a : Addr} {v u : Value} (hx : ρ x = .pointer (some a)) (hy : ρ y = v) (h : OneC P t) (hv : v.oneCell' = true) (hc : w.cell? a = some u) (hf : w.frozen? a = false) :
    (execOp ρ ⟨dst, .store t x y, ty, pos, af, gd⟩).run P w = .ok .skip (w.setCell a v) := by
  simp [execOp, Instr.storeAt, hx, hy, Instr.sureAddr, run_storeVar1 h hv hc hf]

/-! ### arithmetic -/
def bw (op : BinOp) (k : IntKind) (x y : Int) : Int :=
  let a := BitVec.ofInt k.bits x
  let b := BitVec.ofInt k.bits y
  match op with
  | .and => k.wrap (a &&& b).toNat
  | .or => k.wrap (a ||| b).toNat
  | .xor => k.wrap (a ^^^ b).toNat
  | _ => k.wrap (a &&& ~~~b).toNat
variable {x y : Operand} {t t' : TypeId} {kd yk : IntKind} {a b : Int}
theorem r_add (hx : ρ x = .int kd a) (hy : ρ y = .int kd b) : (execOp ρ ⟨dst, .binOp .add t x y t', ty, pos, af, gd⟩).run P w = .ok (.value (.int kd (kd.wrap (a + b)))) w := by
  simp only [execOp, hx, hy]; simp [eqGuard, binOp, Op.intArith]
theorem r_sub (hx : ρ x = .int kd a) (hy : ρ y = .int kd b) : (execOp ρ ⟨dst, .binOp .sub t x y t', ty, pos, af, gd⟩).run P w = .ok (.value (.int kd (kd.wrap (a - b)))) w := by
  simp only [execOp, hx, hy]; simp [eqGuard, binOp, Op.intArith]
theorem r_mul (hx : ρ x = .int kd a) (hy : ρ y = .int kd b) : (execOp ρ ⟨dst, .binOp .mul t x y t', ty, pos, af, gd⟩).run P w = .ok (.value (.int kd (kd.wrap (a * b)))) w := by
  simp only [execOp, hx, hy]; simp [eqGuard, binOp, Op.intArith]
theorem r_and (hx : ρ x = .int kd a) (hy : ρ y = .int kd b) : (execOp ρ ⟨dst, .binOp .and t x y t', ty, pos, af, gd⟩).run P w = .ok (.value (.int kd (bw .and kd a b))) w := by
  simp only [execOp, hx, hy]; simp only [eqGuard, binOp, Op.intBits, bw]; simp
theorem r_or (hx : ρ x = .int kd a) (hy : ρ y = .int kd b) : (execOp ρ ⟨dst, .binOp .or t x y t', ty, pos, af, gd⟩).run P w = .ok (.value (.int kd (bw .or kd a b))) w := by
  simp only [execOp, hx, hy]; simp only [eqGuard, binOp, Op.intBits, bw]; simp
theorem r_xor (hx : ρ x = .int kd a) (hy : ρ y = .int kd b) : (execOp ρ ⟨dst, .binOp .xor t x y t', ty, pos, af, gd⟩).run P w = .ok (.value (.int kd (bw .xor kd a b))) w := by
  simp only [execOp, hx, hy]; simp only [eqGuard, binOp, Op.intBits, bw]; simp
theorem r_andNot (hx : ρ x = .int kd a) (hy : ρ y = .int kd b) : (execOp ρ ⟨dst, .binOp .andNot t x y t', ty, pos, af, gd⟩).run P w = .ok (.value (.int kd (bw .andNot kd a b))) w := by
  simp only [execOp, hx, hy]; simp only [eqGuard, binOp, Op.intBits, bw]; simp
theorem r_shl (hx : ρ x = .int kd a) (hy : ρ y = .int yk b) (h : ¬ b < 0) : (execOp ρ ⟨dst, .binOp .shl t x y t', ty, pos, af, gd⟩).run P w = .ok (.value (.int kd (kd.wrap (a * 2 ^ (min b.toNat kd.bits))))) w := by
  simp only [execOp, hx, hy]; simp only [eqGuard, binOp, Op.shift]; simp [h]
theorem r_shr (hx : ρ x = .int kd a) (hy : ρ y = .int yk b) (h : ¬ b < 0) : (execOp ρ ⟨dst, .binOp .shr t x y t', ty, pos, af, gd⟩).run P w = .ok (.value (.int kd (a.fdiv (2 ^ (min b.toNat kd.bits))))) w := by
  simp only [execOp, hx, hy]; simp only [eqGuard, binOp, Op.shift]; simp [h]
theorem r_quo (hx : ρ x = .int kd a) (hy : ρ y = .int kd b) (h : ¬ b = 0) : (execOp ρ ⟨dst, .binOp .quo t x y t', ty, pos, af, gd⟩).run P w = .ok (.value (.int kd (kd.wrap (a.tdiv b)))) w := by
  simp only [execOp, hx, hy]; simp only [eqGuard, binOp, Op.intDiv]; simp [h]
theorem r_rem (hx : ρ x = .int kd a) (hy : ρ y = .int kd b) (h : ¬ b = 0) : (execOp ρ ⟨dst, .binOp .rem t x y t', ty, pos, af, gd⟩).run P w = .ok (.value (.int kd (a.tmod b))) w := by
  simp only [execOp, hx, hy]; simp only [eqGuard, binOp, Op.intDiv]; simp [h]
theorem r_eql (hx : ρ x = .int kd a) (hy : ρ y = .int kd b) : (execOp ρ ⟨dst, .binOp .eql t x y t', ty, pos, af, gd⟩).run P w = .ok (.value (.bool (a == b))) w := by
  simp only [execOp, hx, hy]; simp only [eqGuard, binOp, Op.intCmp]; simp
theorem r_neq (hx : ρ x = .int kd a) (hy : ρ y = .int kd b) : (execOp ρ ⟨dst, .binOp .neq t x y t', ty, pos, af, gd⟩).run P w = .ok (.value (.bool (a != b))) w := by
  simp only [execOp, hx, hy]; simp only [eqGuard, binOp, Op.intCmp]; simp
theorem r_lss (hx : ρ x = .int kd a) (hy : ρ y = .int kd b) : (execOp ρ ⟨dst, .binOp .lss t x y t', ty, pos, af, gd⟩).run P w = .ok (.value (.bool (decide (a < b)))) w := by
  simp only [execOp, hx, hy]; simp only [eqGuard, binOp, Op.intCmp]; simp
theorem r_leq (hx : ρ x = .int kd a) (hy : ρ y = .int kd b) : (execOp ρ ⟨dst, .binOp .leq t x y t', ty, pos, af, gd⟩).run P w = .ok (.value (.bool (decide (a ≤ b)))) w := by
  simp only [execOp, hx, hy]; simp only [eqGuard, binOp, Op.intCmp]; simp
theorem r_gtr (hx : ρ x = .int kd a) (hy : ρ y = .int kd b) : (execOp ρ ⟨dst, .binOp .gtr t x y t', ty, pos, af, gd⟩).run P w = .ok (.value (.bool (decide (a > b)))) w := by
  simp only [execOp, hx, hy]; simp only [eqGuard, binOp, Op.intCmp]; simp
theorem r_geq (hx : ρ x = .int kd a) (hy : ρ y = .int kd b) : (execOp ρ ⟨dst, .binOp .geq t x y t', ty, pos, af, gd⟩).run P w = .ok (.value (.bool (decide (a ≥ b)))) w := by
  simp only [execOp, hx, hy]; simp only [eqGuard, binOp, Op.intCmp]; simp
def IntT (P : Program) (t : Nat) (k : IntKind) : Prop := P.underlying t = some (.int k)
theorem r_conv {src d : TypeId} {k k' : IntKind} (hs : IntT P src k') (hd : IntT P d k) (hx : ρ x = .int yk a) : (execOp ρ ⟨dst, .convert src d x, ty, pos, af, gd⟩).run P w = .ok (.value (.int k (k.wrap a))) w := by
  have hs' := fun w => run_under (w := w) hs
  have hd' := fun w => run_under (w := w) hd
  simp [execOp, hx, convert, hs', hd', Conv.intToInt]
theorem r_extract {vs : Array Value} {i : Nat} {v : Value} (hx : ρ x = .tuple vs) (hv : vs[i]? = some v) : (execOp ρ ⟨dst, .extract x i, ty, pos, af, gd⟩).run P w = .ok (.value v) w := by
  simp [execOp, hx, Instr.extract, hv]

/-! ### calls -/
def Enters (P : Program) (f : FuncId) : Prop := ∃ fn, P.funcs[f]? = some fn ∧ (fn.name == "runtime.NumGoroutine") = false ∧ fn.body.isNone = false
theorem r_call {f : FuncId} {l : List Operand} {ats : Array TypeId} (h : Enters P f) (hρ : ρ (.func f) = .func (.func f) #[] #[]) :
    (execOp ρ ⟨dst, .call ⟨.value (.func f), l.toArray, ats⟩, ty, pos, af, gd⟩).run P w = .ok (.enter f (l.map ρ).toArray) w := by
  obtain ⟨fn, hf, hn, hb⟩ := h
  have hn' : ¬ fn.name = "runtime.NumGoroutine" := by simpa using hn
  have hb' : ¬ fn.body = none := fun e => by simp [e] at hb
  simp [execOp, resolve, Deferred.ofValue, hρ, invoke, callFunc, hf, hn', hb']
end
section
variable {P : Program} {N : Nat} {E : Env} {w : World} {dst : Option Tmp} {ty : TypeId} {pos : String} {af : Array Edge} {gd : Option (Nat × Bool)}
theorem e_call {f : FuncId} {l : List Operand} {ats : Array TypeId} (h : Enters P f) :
    (execOp (ev N E) ⟨dst, .call ⟨.value (.func f), l.toArray, ats⟩, ty, pos, af, gd⟩).run P w = .ok (.enter f (l.map (ev N E)).toArray) w := by
  exact r_call h rfl
end
end Go.Proofs.YtfaopfaghnefdaaDoor
