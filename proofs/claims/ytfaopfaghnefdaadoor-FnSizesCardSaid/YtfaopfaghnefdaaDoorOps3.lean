/- Arithmetic whose answer is known, indexes that are natural numbers, ranges kept beside a store. Conditions: those of each operation; over any program. -/
import Derived.Test.YtfaopfaghnefdaaDoorOps2
namespace Go.Proofs.YtfaopfaghnefdaaDoor
open Go
theorem wrap_i64 {n : Int} (h1 : -9223372036854775808 ≤ n) (h2 : n < 9223372036854775808) : IntKind.i64.wrap n = n := by
  simp only [IntKind.wrap, IntKind.signed, IntKind.bits]
  simp
  split <;> omega
theorem wrap_u64 {n : Int} (h1 : 0 ≤ n) (h2 : n < 18446744073709551616) : IntKind.u64.wrap n = n := by
  have h : IntKind.u64.wrap n = n % (2 ^ 64 : Int) := by simp [IntKind.wrap, IntKind.signed, IntKind.bits]
  rw [h]; omega
theorem wrap_u32 {n : Int} (h1 : 0 ≤ n) (h2 : n < 4294967296) : IntKind.u32.wrap n = n := by
  have h : IntKind.u32.wrap n = n % (2 ^ 32 : Int) := by simp [IntKind.wrap, IntKind.signed, IntKind.bits]
  rw [h]; omega
theorem wrap_u8 {n : Int} (h1 : 0 ≤ n) (h2 : n < 256) : IntKind.u8.wrap n = n := by
  have h : IntKind.u8.wrap n = n % (2 ^ 8 : Int) := by simp [IntKind.wrap, IntKind.signed, IntKind.bits]
  rw [h]; omega
section
variable {P : Program} {ρ : Operand → Value} {w : World} {dst : Option Tmp} {ty : TypeId} {pos : String} {af : Array Edge} {gd : Option (Nat × Bool)}
variable {x y : Operand} {t t' : TypeId} {kd yk : IntKind} {a b z : Int}
theorem r_addE (hx : ρ x = .int kd a) (hy : ρ y = .int kd b) (h : kd.wrap (a + b) = z) : (execOp ρ ⟨dst, .binOp .add t x y t', ty, pos, af, gd⟩).run P w = .ok (.value (.int kd z)) w := by rw [r_add hx hy, h]
theorem r_subE (hx : ρ x = .int kd a) (hy : ρ y = .int kd b) (h : kd.wrap (a - b) = z) : (execOp ρ ⟨dst, .binOp .sub t x y t', ty, pos, af, gd⟩).run P w = .ok (.value (.int kd z)) w := by rw [r_sub hx hy, h]
theorem r_mulE (hx : ρ x = .int kd a) (hy : ρ y = .int kd b) (h : kd.wrap (a * b) = z) : (execOp ρ ⟨dst, .binOp .mul t x y t', ty, pos, af, gd⟩).run P w = .ok (.value (.int kd z)) w := by rw [r_mul hx hy, h]
theorem r_quoE (hx : ρ x = .int kd a) (hy : ρ y = .int kd b) (h0 : ¬ b = 0) (h : kd.wrap (a.tdiv b) = z) : (execOp ρ ⟨dst, .binOp .quo t x y t', ty, pos, af, gd⟩).run P w = .ok (.value (.int kd z)) w := by rw [r_quo hx hy h0, h]
theorem r_remE (hx : ρ x = .int kd a) (hy : ρ y = .int kd b) (h0 : ¬ b = 0) (h : a.tmod b = z) : (execOp ρ ⟨dst, .binOp .rem t x y t', ty, pos, af, gd⟩).run P w = .ok (.value (.int kd z)) w := by rw [r_rem hx hy h0, h]
theorem r_andE (hx : ρ x = .int kd a) (hy : ρ y = .int kd b) (h : bw .and kd a b = z) : (execOp ρ ⟨dst, .binOp .and t x y t', ty, pos, af, gd⟩).run P w = .ok (.value (.int kd z)) w := by rw [r_and hx hy, h]
theorem r_xorE (hx : ρ x = .int kd a) (hy : ρ y = .int kd b) (h : bw .xor kd a b = z) : (execOp ρ ⟨dst, .binOp .xor t x y t', ty, pos, af, gd⟩).run P w = .ok (.value (.int kd z)) w := by rw [r_xor hx hy, h]
theorem r_shlE (hx : ρ x = .int kd a) (hy : ρ y = .int yk b) (h0 : ¬ b < 0) (h : kd.wrap (a * 2 ^ (min b.toNat kd.bits)) = z) : (execOp ρ ⟨dst, .binOp .shl t x y t', ty, pos, af, gd⟩).run P w = .ok (.value (.int kd z)) w := by rw [r_shl hx hy h0, h]
theorem r_convE {src d : TypeId} {k k' : IntKind} (hs : IntT P src k') (hd : IntT P d k) (hx : ρ x = .int yk a) (h : k.wrap a = z) : (execOp ρ ⟨dst, .convert src d x, ty, pos, af, gd⟩).run P w = .ok (.value (.int k z)) w := by rw [r_conv hs hd hx, h]
theorem r_lssE {q : Bool} (hx : ρ x = .int kd a) (hy : ρ y = .int kd b) (h : decide (a < b) = q) : (execOp ρ ⟨dst, .binOp .lss t x y t', ty, pos, af, gd⟩).run P w = .ok (.value (.bool q)) w := by rw [r_lss hx hy, h]
theorem r_leqE {q : Bool} (hx : ρ x = .int kd a) (hy : ρ y = .int kd b) (h : decide (a ≤ b) = q) : (execOp ρ ⟨dst, .binOp .leq t x y t', ty, pos, af, gd⟩).run P w = .ok (.value (.bool q)) w := by rw [r_leq hx hy, h]
theorem r_gtrE {q : Bool} (hx : ρ x = .int kd a) (hy : ρ y = .int kd b) (h : decide (a > b) = q) : (execOp ρ ⟨dst, .binOp .gtr t x y t', ty, pos, af, gd⟩).run P w = .ok (.value (.bool q)) w := by rw [r_gtr hx hy, h]
theorem r_geqE {q : Bool} (hx : ρ x = .int kd a) (hy : ρ y = .int kd b) (h : decide (a ≥ b) = q) : (execOp ρ ⟨dst, .binOp .geq t x y t', ty, pos, af, gd⟩).run P w = .ok (.value (.bool q)) w := by rw [r_geq hx hy, h]
theorem r_eqlE {q : Bool} (hx : ρ x = .int kd a) (hy : ρ y = .int kd b) (h : (a == b) = q) : (execOp ρ ⟨dst, .binOp .eql t x y t', ty, pos, af, gd⟩).run P w = .ok (.value (.bool q)) w := by rw [r_eql hx hy, h]
theorem r_neqE {q : Bool} (hx : ρ x = .int kd a) (hy : ρ y = .int kd b) (h : (a != b) = q) : (execOp ρ ⟨dst, .binOp .neq t x y t', ty, pos, af, gd⟩).run P w = .ok (.value (.bool q)) w := by rw [r_neq hx hy, h]
variable {bl o k len n c : Nat} {ix : Operand}
theorem r_ix (hx : ρ x = .pointer (some ⟨bl, o, none⟩)) (hi : ρ ix = .int kd ((k : Nat) : Int)) (h : ArrAt P t len 1) (hk : k < len) :
    (execOp ρ ⟨dst, .indexAddr t x ix, ty, pos, af, gd⟩).run P w = .ok (.value (.pointer (some ⟨bl, o + k, none⟩))) w := by
  rw [r_index_arr hx hi h (by omega) (by omega)]; simp
theorem r_ix8 {es : Nat} (hx : ρ x = .pointer (some ⟨bl, o, none⟩)) (hi : ρ ix = .int kd ((k : Nat) : Int)) (h : ArrAt P t len es) (hk : k < len) :
    (execOp ρ ⟨dst, .indexAddr t x ix, ty, pos, af, gd⟩).run P w = .ok (.value (.pointer (some ⟨bl, o + k * es, none⟩))) w := by
  rw [r_index_arr hx hi h (by omega) (by omega)]; simp
theorem r_ixs (hx : ρ x = .slice (some ⟨bl, o, none⟩) n c) (hi : ρ ix = .int kd ((k : Nat) : Int)) (h : SlcAt P t 1) (hk : k < n) :
    (execOp ρ ⟨dst, .indexAddr t x ix, ty, pos, af, gd⟩).run P w = .ok (.value (.pointer (some ⟨bl, o + k, none⟩))) w := by
  rw [r_index_slc hx hi h (by omega) (by omega)]; simp
end
section
variable {w : World}
theorem Rd.set {b o m g i : Nat} {kd : IntKind} {x : Nat → Int} {v : Value} (h : Rd w b o m kd x) (hd : b ≠ g ∨ i < o ∨ o + m ≤ i) : Rd (w.setCell ⟨g, i, none⟩ v) b o m kd x := fun j hj => by
  rw [World.cell?_setCell_other _ _ _ _ (fun e => by injection e with e1 e2; omega)]
  exact h j hj
end
theorem Mod.fresh {T : List Nat} {w w' w'' : World} {g : Nat} (h : Mod T w w') (h' : Mod [g] w' w'') (hg : w.heap.size ≤ g) : Mod T w w'' :=
  h.trans h' fun k hk => by simp at hk; subst hk; exact Or.inr hg
theorem Mod.old {T : List Nat} {w w' w'' : World} {g : Nat} (h : Mod T w w') (h' : Mod [g] w' w'') (hg : g ∈ T) : Mod T w w'' :=
  h.trans h' fun k hk => by simp at hk; subst hk; exact Or.inl hg
theorem Mod.none {T : List Nat} {w w' w'' : World} (h : Mod T w w') (h' : Mod [] w' w'') : Mod T w w'' := h.trans h' fun k hk => by simp at hk
theorem Mod.drewR {T : List Nat} {w w' : World} (h : Mod T w w') : Mod T w w'.drew := h.none (Mod.drew [] _)
theorem Blk.ne {w : World} {g g' n : Nat} {c : Nat → Value} {t : TypeId} (h : Blk w g n c t) (hg : w.heap.size ≤ g') : g ≠ g' := fun e => by have := h.lt; omega
theorem Rd.ne {w : World} {b o m g : Nat} {kd : IntKind} {x : Nat → Int} (h : Rd w b o m kd x) (hm : 0 < m) (hg : w.heap.size ≤ g) : b ≠ g := fun e => by have h1 := lt_of_cell (h 0 hm); simp only at h1; omega
/-- The guards of a '&&' and of a '||'. -/
theorem gyes {N : Nat} {E : Env} {ops : Array Oper} {o g : Oper} {j t : Nat} {want : Bool} (hg : o.guard = some (j, want)) (hj : ops[j]? = some g) (hd : g.dst = some t) (ht : Nat.blt t N = true) (hE : E t = .bool want) : Region.wanted o (yielded ops (actOf N E).tmps) = true := by
  rw [wanted_actOf hg hj hd ht hE]; simp
theorem gno {N : Nat} {E : Env} {ops : Array Oper} {o g : Oper} {j t : Nat} {want : Bool} (hg : o.guard = some (j, want)) (hj : ops[j]? = some g) (hd : g.dst = some t) (ht : Nat.blt t N = true) (hE : E t = .bool (!want)) : Region.wanted o (yielded ops (actOf N E).tmps) = false := by
  rw [wanted_actOf hg hj hd ht hE]; cases want <;> rfl
/-- k places told anew, each eighth from o + col on. -/
def stw (c : Nat → Value) (o col k : Nat) (f : Nat → Value) : Nat → Value := fun j => if o + col ≤ j ∧ (j - o - col) % 8 = 0 ∧ (j - o - col) / 8 < k then f ((j - o - col) / 8) else c j
theorem stw_zero (c : Nat → Value) (o col : Nat) (f : Nat → Value) : stw c o col 0 f = c := by
  funext j; exact if_neg (by omega)
theorem stw_snoc (c : Nat → Value) (o col k : Nat) (f : Nat → Value) (v : Value) (hv : v = f k) : upd (stw c o col k f) (o + (8 * k + col)) v = stw c o col (k + 1) f := by
  funext j
  by_cases hj : j = o + (8 * k + col)
  · subst hj
    rw [upd_same, hv, stw, if_pos (by omega)]
    congr 1; omega
  · rw [upd_other _ _ hj, stw, stw]
    by_cases h : o + col ≤ j ∧ (j - o - col) % 8 = 0 ∧ (j - o - col) / 8 < k
    · rw [if_pos h, if_pos (by omega)]
    · rw [if_neg h, if_neg (by omega)]
theorem stw_at (c : Nat → Value) (o col m : Nat) (f : Nat → Value) {k : Nat} (hk : k < m) : stw c o col m f (o + (8 * k + col)) = f k := by
  rw [stw, if_pos (by omega)]; congr 1; omega
theorem stw_out (c : Nat → Value) (o col m : Nat) (f : Nat → Value) {j : Nat} (hj : ¬ (o + col ≤ j ∧ (j - o - col) % 8 = 0 ∧ (j - o - col) / 8 < m)) : stw c o col m f j = c j := if_neg hj
end Go.Proofs.YtfaopfaghnefdaaDoor
