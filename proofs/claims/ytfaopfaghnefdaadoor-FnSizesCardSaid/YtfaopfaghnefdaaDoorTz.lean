/- TrailingZeros64 over whatever its table holds, and the two loops at the end of finalizeDigest as functions. Conditions: the table is there. -/
import Derived.Test.YtfaopfaghnefdaaDoorCall
namespace Go.Proofs.YtfaopfaghnefdaaDoor
open Go
theorem en30 : Enters Tryd.prog 30 := ⟨_, Tryd.func30, by kernel_rfl, rfl⟩
theorem r_neg {P : Program} {ρ : Operand → Value} {w : World} {dst : Option Tmp} {ty : TypeId} {pos : String} {af : Array Edge} {gd : Option (Nat × Bool)} {x : Operand} {t : TypeId} {kd : IntKind} {a : Int} (hx : ρ x = .int kd a) :
    (execOp ρ ⟨dst, .unOp .neg t x, ty, pos, af, gd⟩).run P w = .ok (.value (.int kd (kd.wrap (0 - a)))) w := by
  simp only [execOp, hx]; simp [Op.unary, Op.intArith]
theorem wrap_u64_mod (n : Int) : IntKind.u64.wrap n = n % (2 ^ 64 : Int) := by simp [IntKind.wrap, IntKind.signed, IntKind.bits]
def tzI (x : Int) : Int := (IntKind.u64.wrap (bw .and .u64 x (IntKind.u64.wrap (0 - x)) * 285870213051353865)).fdiv (2 ^ (min (58 : Int).toNat IntKind.u64.bits))
theorem tzI_rng (x : Int) : 0 ≤ tzI x ∧ tzI x < 64 := by
  unfold tzI
  rw [wrap_u64_mod, show min (58 : Int).toNat IntKind.u64.bits = 58 from rfl, Int.fdiv_eq_ediv_of_nonneg _ (by decide)]
  omega
/-- What the table tells of a number. -/
def tzF (T : Nat → Int) (x : Int) : Int := IntKind.i64.wrap (T (tzI x).toNat)
theorem tz_any (x : Int) (T : Nat → Int) (w : World) (hT : Rd w 1 0 64 .u8 T) (hx : x ≠ 0) : Calls Tryd.prog 30 #[.int .u64 x] w fun e w' => e = .returned (.int .i64 (tzF T x)) ∧ w' = w := by
  refine calls_of_CW (l := [_]) (N := 14) Tryd.func30 rfl rfl rfl ?_
  first | refine CW.seq (CW.region ?_) | refine CW.seq (CW.seq (CW.region ?_))
  refine LW.val rfl rfl (r_assign) ?_
  refine LW.nil ?_
  first | refine CW.seq (CW.region ?_) | refine CW.seq (CW.seq (CW.region ?_))
  refine LW.val rfl rfl (r_move) ?_
  refine LW.val rfl rfl (r_eqlE rfl rfl (q := false) (by simpa using hx)) ?_
  refine LW.nil ?_
  first | refine CW.cond_f rfl (CW.skip ?_) | refine CW.seq (CW.cond_f rfl (CW.skip ?_))
  first | refine CW.seq (CW.region ?_) | refine CW.seq (CW.seq (CW.region ?_))
  refine LW.val rfl rfl (r_move) ?_
  refine LW.val rfl rfl (r_move) ?_
  refine LW.val rfl rfl (r_neg rfl) ?_
  refine LW.val rfl rfl (r_and rfl rfl) ?_
  refine LW.val rfl rfl (r_mul rfl rfl) ?_
  refine LW.val rfl rfl (r_shr rfl rfl (by decide)) ?_
  refine LW.val rfl rfl (r_index_arr (i := tzI x) rfl rfl arr72 (tzI_rng x).1 (tzI_rng x).2) ?_
  refine LW.val rfl rfl (r_load (a := ⟨1, 0 + (tzI x).toNat * 1, none⟩) (v := .int .u8 (T (tzI x).toNat)) rfl one5 (by rw [Nat.mul_one]; exact hT _ (by have := tzI_rng x; omega))) ?_
  refine LW.val rfl rfl (r_conv int5 int3 rfl) ?_
  refine LW.val rfl rfl (r_assign) ?_
  exact LW.nil (CW.ret ⟨_, RetV.one (t := 2) rfl rfl, rfl, rfl⟩)
/-- The column that the code takes for a number of levels. -/
def colF (T : Nat → Int) (o : Nat) : Nat := ((IntKind.u64.wrap (tzF T (o : Int))).tmod 64).toNat
theorem colF_lt (T : Nat → Int) (o : Nat) : colF T o < 64 := by
  unfold colF
  have h : (0 : Int) ≤ IntKind.u64.wrap (tzF T (o : Int)) := by rw [wrap_u64_mod]; omega
  rw [Int.tmod_eq_emod_of_nonneg h]
  omega
theorem colF_eq (T : Nat → Int) (o : Nat) : (IntKind.u64.wrap (tzF T (o : Int))).tmod 64 = ((colF T o : Nat) : Int) := by
  unfold colF
  have h : (0 : Int) ≤ IntKind.u64.wrap (tzF T (o : Int)) := by rw [wrap_u64_mod]; omega
  rw [Int.tmod_eq_emod_of_nonneg h]
  omega
/-- One level's value joined. -/
def mgB (s2 : CS) (T : Nat → Int) (o : Nat) (d : DS) : DS :=
  { d with bl := fun i => if 8 ≤ i then compF d.ch d.bl d.ctr d.blen d.fl (i - 8) else (fun i => if i < 8 then s2.stk (colF T o * 8 + i) else d.bl i) i }
def mgS (K : Nat → Int) (s2 : CS) (T : Nat → Int) (o : Nat) (d : DS) : DS := if o = s2.occ then { mgB s2 T o d with ch := K, ctr := 0, blen := 64, fl := bw .or .u32 0 4 } else mgB s2 T o d
theorem and_pred_lt {o : Nat} (h : ¬ o = 0) : o &&& (o - 1) < o := Nat.lt_of_le_of_lt Nat.and_le_right (by omega)
def mgF (K : Nat → Int) (s2 : CS) (T : Nat → Int) (o : Nat) (d : DS) : DS := if h : o = 0 then d else mgF K s2 T (o &&& (o - 1)) (mgS K s2 T o d)
termination_by o
decreasing_by exact and_pred_lt h
theorem mgF_zero (K : Nat → Int) (s2 : CS) (T : Nat → Int) (d : DS) : mgF K s2 T 0 d = d := by rw [mgF]; rfl
theorem mgF_step (K : Nat → Int) (s2 : CS) (T : Nat → Int) {o : Nat} (h : ¬ o = 0) (d : DS) : mgF K s2 T o d = mgF K s2 T (o &&& (o - 1)) (mgS K s2 T o d) := by rw [mgF, dif_neg h]
theorem mgS_ctr (K : Nat → Int) (s2 : CS) (T : Nat → Int) (o : Nat) (d : DS) : (mgS K s2 T o d).ctr ≤ d.ctr ∧ (mgS K s2 T o d).bn = d.bn := by
  unfold mgS; split
  · exact ⟨Nat.zero_le _, rfl⟩
  · exact ⟨Nat.le_refl _, rfl⟩
theorem mgF_ctr (K : Nat → Int) (s2 : CS) (T : Nat → Int) (o : Nat) (d : DS) : (mgF K s2 T o d).ctr ≤ d.ctr ∧ (mgF K s2 T o d).bn = d.bn := by
  by_cases h : o = 0
  · subst h; rw [mgF_zero]; exact ⟨Nat.le_refl _, rfl⟩
  · rw [mgF_step _ _ _ h]
    have h1 := mgF_ctr K s2 T (o &&& (o - 1)) (mgS K s2 T o d)
    have h2 := mgS_ctr K s2 T o d
    exact ⟨Nat.le_trans h1.1 h2.1, h1.2.trans h2.2⟩
termination_by o
decreasing_by exact and_pred_lt h
end Go.Proofs.YtfaopfaghnefdaaDoor
