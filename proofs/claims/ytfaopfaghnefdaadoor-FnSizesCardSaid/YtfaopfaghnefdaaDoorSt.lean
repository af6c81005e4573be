/- The stack of chaining values as a state, the steps of it as functions, and why they come to an end. No program is walked here. Conditions: none. -/
import Derived.Test.YtfaopfaghnefdaaDoorHashP
namespace Go.Proofs.YtfaopfaghnefdaaDoor
open Go
/-! ### bits of natural numbers -/
theorem bw_u64 {a b : Nat} (ha : a < 2 ^ 64) (hb : b < 2 ^ 64) : bw .and .u64 (a : Int) (b : Int) = ((a &&& b : Nat) : Int) ∧ bw .xor .u64 (a : Int) (b : Int) = ((a ^^^ b : Nat) : Int) := by
  have h1 : a &&& b < 2 ^ 64 := Nat.and_lt_two_pow a hb
  have h2 : a ^^^ b < 2 ^ 64 := Nat.xor_lt_two_pow ha hb
  have e1 : (BitVec.ofInt 64 (a : Int)).toNat = a := by simp; omega
  have e2 : (BitVec.ofInt 64 (b : Int)).toNat = b := by simp; omega
  constructor
  · show IntKind.u64.wrap ((BitVec.ofInt 64 (a : Int) &&& BitVec.ofInt 64 (b : Int)).toNat) = _
    rw [BitVec.toNat_and, e1, e2, wrap_u64 (by omega) (by omega)]
  · show IntKind.u64.wrap ((BitVec.ofInt 64 (a : Int) ^^^ BitVec.ofInt 64 (b : Int)).toNat) = _
    rw [BitVec.toNat_xor, e1, e2, wrap_u64 (by omega) (by omega)]
theorem bw_u8_63 {l : Nat} (h : l < 256) : bw .and .u8 (l : Int) 63 = ((l % 64 : Nat) : Int) := by
  have e1 : (BitVec.ofInt 8 (l : Int)).toNat = l := by simp; omega
  have e2 : (BitVec.ofInt 8 63).toNat = 63 := by decide
  show IntKind.u8.wrap ((BitVec.ofInt 8 (l : Int) &&& BitVec.ofInt 8 63).toNat) = _
  rw [BitVec.toNat_and, e1, e2, show l &&& 63 = l % 64 from Nat.and_two_pow_sub_one_eq_mod l 6, wrap_u8 (by omega) (by omega)]
theorem bw_i64_7 {l : Nat} (h : l < 8) : bw .and .i64 (l : Int) 7 = (l : Int) := by
  have e1 : (BitVec.ofInt 64 (l : Int)).toNat = l := by simp; omega
  have e2 : (BitVec.ofInt 64 7).toNat = 7 := by decide
  show IntKind.i64.wrap ((BitVec.ofInt 64 (l : Int) &&& BitVec.ofInt 64 7).toNat) = _
  rw [BitVec.toNat_and, e1, e2, show l &&& 7 = l % 8 from Nat.and_two_pow_sub_one_eq_mod l 3, wrap_i64 (by omega) (by omega)]
  omega
theorem shl1 {q : Nat} (h : q < 64) : IntKind.u64.wrap (1 * 2 ^ (min ((q : Nat) : Int).toNat IntKind.u64.bits)) = ((2 ^ q : Nat) : Int) := by
  have hm : min ((q : Nat) : Int).toNat IntKind.u64.bits = q := by simp [IntKind.bits]; omega
  have hp : 2 ^ q < 2 ^ 64 := Nat.pow_lt_pow_right (by decide) h
  have hx : ((2 : Int) ^ q) = ((2 ^ q : Nat) : Int) := by simp
  rw [hm, Int.one_mul, hx]
  generalize 2 ^ q = x at hp
  rw [wrap_u64 (by omega) (by omega)]
theorem pow_lt64 {q : Nat} (h : q < 64) : 2 ^ q < 2 ^ 64 := Nat.pow_lt_pow_right (by decide) h
/-- How many of the first k bits are set. -/
def pc (f : Nat → Bool) : Nat → Nat
  | 0 => 0
  | k + 1 => pc f k + (if f k = true then 1 else 0)
theorem pc_congr {f g : Nat → Bool} : ∀ k, (∀ i, i < k → f i = g i) → pc f k = pc g k
  | 0, _ => rfl
  | k + 1, h => by rw [pc, pc, pc_congr k fun i hi => h i (by omega), h k (by omega)]
theorem pc_flip {f g : Nat → Bool} {q : Nat} : ∀ k, q < k → (∀ i, i ≠ q → g i = f i) → f q = false → g q = true → pc g k = pc f k + 1
  | 0, h, _, _, _ => by omega
  | k + 1, h, hi, hf, hg => by
    by_cases hk : q = k
    · subst hk
      rw [pc, pc, pc_congr (f := g) (g := f) q fun i h => hi i (by omega), hf, hg]; simp
    · rw [pc, pc, pc_flip k (by omega) hi hf hg, hi k (fun e => hk e.symm)]; omega
theorem bit_clear {o q : Nat} (h : o &&& 2 ^ q = 0) : o.testBit q = false := by
  have := congrArg (fun n => n.testBit q) h
  simpa [Nat.testBit_and, Nat.testBit_two_pow] using this
theorem bit_set {o q : Nat} (h : ¬ (o &&& 2 ^ q = 0)) : o.testBit q = true := by
  cases hb : o.testBit q with
  | true => rfl
  | false =>
    exfalso; apply h
    apply Nat.eq_of_testBit_eq
    intro i
    rw [Nat.testBit_and, Nat.testBit_two_pow, Nat.zero_testBit]
    by_cases hi : q = i
    · subst hi; simp [hb]
    · simp [hi]
theorem xor_other {o q i : Nat} (h : i ≠ q) : (o ^^^ 2 ^ q).testBit i = o.testBit i := by
  rw [Nat.testBit_xor, Nat.testBit_two_pow]; simp [Ne.symm h]
theorem xor_same {o q : Nat} : (o ^^^ 2 ^ q).testBit q = !o.testBit q := by
  rw [Nat.testBit_xor, Nat.testBit_two_pow]; simp

/-! ### the state -/
structure CS where
  occ : Nat
  lvls : Nat → Nat
  bufn : Nat
  buf : Nat → Int
  stk : Nat → Int
structure CS.ok (s : CS) : Prop where
  occ : s.occ < 2 ^ 64
  lvls : ∀ i, s.lvls i < 256
  bufn : s.bufn ≤ 8
/-- A hasher's cells: the state's own, and all others. -/
def hc (b : Nat → Value) (s : CS) : Nat → Value := fun j =>
  if j < 12 then b j else if j = 12 then .int .u64 ((s.occ : Nat) : Int) else if j < 21 then .int .u8 ((s.lvls (j - 13) : Nat) : Int)
  else if j = 21 then .int .i64 ((s.bufn : Nat) : Int) else if j < 150 then .int .u32 (s.buf (j - 22)) else if j < 662 then .int .u32 (s.stk (j - 150)) else b j
def CS.setOcc (s : CS) (x : Nat) : CS := { s with occ := x }
def CS.setBufn (s : CS) (x : Nat) : CS := { s with bufn := x }
def CS.setLvl (s : CS) (i x : Nat) : CS := { s with lvls := upd s.lvls i x }
def CS.clrLvl (s : CS) : CS := { s with lvls := fun _ => 0 }
def CS.setStk (s : CS) (q : Nat) (x : Nat → Int) : CS := { s with stk := fun i => if q * 8 ≤ i ∧ i < q * 8 + 8 then x (i - q * 8) else s.stk i }
def CS.setL (s : CS) (col : Nat) (x : Nat → Int) : CS := { s with buf := fun i => if i < 64 ∧ i % 8 = col then x (i / 8) else s.buf i }
def CS.setR (s : CS) (col : Nat) (x : Nat → Int) : CS := { s with buf := fun i => if 64 ≤ i ∧ i % 8 = col then x ((i - 64) / 8) else s.buf i }
section
variable (b : Nat → Value) (s : CS)
theorem hc_lo {j : Nat} (h : j < 12) : hc b s j = b j := if_pos h
theorem hc_occ0 : hc b s 12 = .int .u64 ((s.occ : Nat) : Int) := rfl
theorem hc_lvl0 {i : Nat} (h : i < 8) : hc b s (13 + i) = .int .u8 ((s.lvls i : Nat) : Int) := by
  unfold hc; rw [if_neg (by omega), if_neg (by omega), if_pos (by omega), show 13 + i - 13 = i by omega]
theorem hc_bufn0 : hc b s 21 = .int .i64 ((s.bufn : Nat) : Int) := rfl
theorem hc_buf0 {i : Nat} (h : i < 128) : hc b s (22 + i) = .int .u32 (s.buf i) := by
  unfold hc; rw [if_neg (by omega), if_neg (by omega), if_neg (by omega), if_neg (by omega), if_pos (by omega), show 22 + i - 22 = i by omega]
theorem hc_stk0 {i : Nat} (h : i < 512) : hc b s (150 + i) = .int .u32 (s.stk i) := by
  unfold hc; rw [if_neg (by omega), if_neg (by omega), if_neg (by omega), if_neg (by omega), if_neg (by omega), if_pos (by omega), show 150 + i - 150 = i by omega]
theorem hc_hi {j : Nat} (h : 662 ≤ j) : hc b s j = b j := by
  unfold hc; rw [if_neg (by omega), if_neg (by omega), if_neg (by omega), if_neg (by omega), if_neg (by omega), if_neg (by omega)]
theorem hc_rest {f g : Nat → Value} (h0 : ∀ j, j < 12 → f j = g j) (h1 : f 12 = g 12) (h2 : ∀ i, i < 8 → f (13 + i) = g (13 + i)) (h3 : f 21 = g 21) (h4 : ∀ i, i < 128 → f (22 + i) = g (22 + i)) (h5 : ∀ i, i < 512 → f (150 + i) = g (150 + i)) (h6 : ∀ j, 662 ≤ j → f j = g j) : f = g := by
  funext j
  by_cases a0 : j < 12
  · exact h0 j a0
  by_cases a1 : j = 12
  · subst a1; exact h1
  by_cases a2 : j < 21
  · have := h2 (j - 13) (by omega); rwa [show 13 + (j - 13) = j by omega] at this
  by_cases a3 : j = 21
  · subst a3; exact h3
  by_cases a4 : j < 150
  · have := h4 (j - 22) (by omega); rwa [show 22 + (j - 22) = j by omega] at this
  by_cases a5 : j < 662
  · have := h5 (j - 150) (by omega); rwa [show 150 + (j - 150) = j by omega] at this
  · exact h6 j (by omega)
theorem hc_setOcc (x : Nat) : upd (hc b s) 12 (.int .u64 ((x : Nat) : Int)) = hc b (s.setOcc x) := by
  refine hc_rest (fun j h => ?_) ?_ (fun i h => ?_) ?_ (fun i h => ?_) (fun i h => ?_) (fun j h => ?_)
  · rw [upd_other _ _ (by omega), hc_lo b _ h, hc_lo b _ h]
  · rw [upd_same]; rfl
  · rw [upd_other _ _ (by omega), hc_lvl0 b _ h, hc_lvl0 b _ h]; rfl
  · rw [upd_other _ _ (by omega)]; rfl
  · rw [upd_other _ _ (by omega), hc_buf0 b _ h, hc_buf0 b _ h]; rfl
  · rw [upd_other _ _ (by omega), hc_stk0 b _ h, hc_stk0 b _ h]; rfl
  · rw [upd_other _ _ (by omega), hc_hi b _ h, hc_hi b _ h]
theorem hc_setBufn (x : Nat) : upd (hc b s) 21 (.int .i64 ((x : Nat) : Int)) = hc b (s.setBufn x) := by
  refine hc_rest (fun j h => ?_) ?_ (fun i h => ?_) ?_ (fun i h => ?_) (fun i h => ?_) (fun j h => ?_)
  · rw [upd_other _ _ (by omega), hc_lo b _ h, hc_lo b _ h]
  · rw [upd_other _ _ (by omega)]; rfl
  · rw [upd_other _ _ (by omega), hc_lvl0 b _ h, hc_lvl0 b _ h]; rfl
  · rw [upd_same]; rfl
  · rw [upd_other _ _ (by omega), hc_buf0 b _ h, hc_buf0 b _ h]; rfl
  · rw [upd_other _ _ (by omega), hc_stk0 b _ h, hc_stk0 b _ h]; rfl
  · rw [upd_other _ _ (by omega), hc_hi b _ h, hc_hi b _ h]
theorem hc_setLvl {i : Nat} (hi : i < 8) (x : Nat) : upd (hc b s) (13 + i) (.int .u8 ((x : Nat) : Int)) = hc b (s.setLvl i x) := by
  refine hc_rest (fun j h => ?_) ?_ (fun k h => ?_) ?_ (fun i h => ?_) (fun i h => ?_) (fun j h => ?_)
  · rw [upd_other _ _ (by omega), hc_lo b _ h, hc_lo b _ h]
  · rw [upd_other _ _ (by omega)]; rfl
  · rw [hc_lvl0 b _ h]
    by_cases hk : k = i
    · subst hk; rw [upd_same]; simp only [CS.setLvl, upd_same]
    · rw [upd_other _ _ (by omega), hc_lvl0 b _ h]; simp only [CS.setLvl, upd_other _ _ hk]
  · rw [upd_other _ _ (by omega)]; rfl
  · rw [upd_other _ _ (by omega), hc_buf0 b _ h, hc_buf0 b _ h]; rfl
  · rw [upd_other _ _ (by omega), hc_stk0 b _ h, hc_stk0 b _ h]; rfl
  · rw [upd_other _ _ (by omega), hc_hi b _ h, hc_hi b _ h]
theorem hc_clrLvl : put (hc b s) 13 8 (fun _ => .int .u8 0) = hc b s.clrLvl := by
  refine hc_rest (fun j h => ?_) ?_ (fun k h => ?_) ?_ (fun i h => ?_) (fun i h => ?_) (fun j h => ?_)
  · rw [put_out _ _ (by omega), hc_lo b _ h, hc_lo b _ h]
  · rw [put_out _ _ (by omega)]; rfl
  · rw [put_at _ _ h, hc_lvl0 b _ h]; rfl
  · rw [put_out _ _ (by omega)]; rfl
  · rw [put_out _ _ (by omega), hc_buf0 b _ h, hc_buf0 b _ h]; rfl
  · rw [put_out _ _ (by omega), hc_stk0 b _ h, hc_stk0 b _ h]; rfl
  · rw [put_out _ _ (by omega), hc_hi b _ h, hc_hi b _ h]
theorem hc_setStk {q : Nat} (hq : q < 64) (x : Nat → Int) : put (hc b s) (150 + q * 8) 8 (fun k => .int .u32 (x k)) = hc b (s.setStk q x) := by
  refine hc_rest (fun j h => ?_) ?_ (fun k h => ?_) ?_ (fun i h => ?_) (fun i h => ?_) (fun j h => ?_)
  · rw [put_out _ _ (by omega), hc_lo b _ h, hc_lo b _ h]
  · rw [put_out _ _ (by omega)]; rfl
  · rw [put_out _ _ (by omega), hc_lvl0 b _ h, hc_lvl0 b _ h]; rfl
  · rw [put_out _ _ (by omega)]; rfl
  · rw [put_out _ _ (by omega), hc_buf0 b _ h, hc_buf0 b _ h]; rfl
  · rw [hc_stk0 b _ h]
    by_cases hi : q * 8 ≤ i ∧ i < q * 8 + 8
    · rw [put_in _ _ (by omega)]; simp only [CS.setStk, if_pos hi, show 150 + i - (150 + q * 8) = i - q * 8 by omega]
    · rw [put_out _ _ (by omega), hc_stk0 b _ h]; simp only [CS.setStk, if_neg hi]
  · rw [put_out _ _ (by omega), hc_hi b _ h, hc_hi b _ h]
theorem stw_in (c : Nat → Value) (o col k : Nat) (f : Nat → Value) {j : Nat} (h : o + col ≤ j ∧ (j - o - col) % 8 = 0 ∧ (j - o - col) / 8 < k) : stw c o col k f j = f ((j - o - col) / 8) := if_pos h
theorem hc_setL {col : Nat} (hc8 : col < 8) (x : Nat → Int) : stw (hc b s) 22 col 8 (fun k => .int .u32 (x k)) = hc b (s.setL col x) := by
  refine hc_rest (fun j h => ?_) ?_ (fun k h => ?_) ?_ (fun i h => ?_) (fun i h => ?_) (fun j h => ?_)
  · rw [stw_out _ _ _ _ _ (by omega), hc_lo b _ h, hc_lo b _ h]
  · rw [stw_out _ _ _ _ _ (by omega)]; rfl
  · rw [stw_out _ _ _ _ _ (by omega), hc_lvl0 b _ h, hc_lvl0 b _ h]; rfl
  · rw [stw_out _ _ _ _ _ (by omega)]; rfl
  · rw [hc_buf0 b _ h]
    by_cases hi : i < 64 ∧ i % 8 = col
    · rw [stw_in _ _ _ _ _ (by omega)]; simp only [CS.setL, if_pos hi, show (22 + i - 22 - col) / 8 = i / 8 by omega]
    · rw [stw_out _ _ _ _ _ (by omega), hc_buf0 b _ h]; simp only [CS.setL, if_neg hi]
  · rw [stw_out _ _ _ _ _ (by omega), hc_stk0 b _ h, hc_stk0 b _ h]; rfl
  · rw [stw_out _ _ _ _ _ (by omega), hc_hi b _ h, hc_hi b _ h]
theorem hc_setR {col : Nat} (hc8 : col < 8) (x : Nat → Int) : stw (hc b s) 86 col 8 (fun k => .int .u32 (x k)) = hc b (s.setR col x) := by
  refine hc_rest (fun j h => ?_) ?_ (fun k h => ?_) ?_ (fun i h => ?_) (fun i h => ?_) (fun j h => ?_)
  · rw [stw_out _ _ _ _ _ (by omega), hc_lo b _ h, hc_lo b _ h]
  · rw [stw_out _ _ _ _ _ (by omega)]; rfl
  · rw [stw_out _ _ _ _ _ (by omega), hc_lvl0 b _ h, hc_lvl0 b _ h]; rfl
  · rw [stw_out _ _ _ _ _ (by omega)]; rfl
  · rw [hc_buf0 b _ h]
    by_cases hi : 64 ≤ i ∧ i % 8 = col
    · rw [stw_in _ _ _ _ _ (by omega)]; simp only [CS.setR, if_pos hi, show (22 + i - 86 - col) / 8 = (i - 64) / 8 by omega]
    · rw [stw_out _ _ _ _ _ (by omega), hc_buf0 b _ h]; simp only [CS.setR, if_neg hi]
  · rw [stw_out _ _ _ _ _ (by omega), hc_stk0 b _ h, hc_stk0 b _ h]; rfl
  · rw [stw_out _ _ _ _ _ (by omega), hc_hi b _ h, hc_hi b _ h]
end

/-! ### its steps -/
/-- One value laid at a level. -/
def pushF (s : CS) (l : Nat) (cv : Nat → Int) (n : Nat) : CS :=
  if s.occ &&& 2 ^ (l % 64) = 0 then (s.setStk (l % 64) (fun k => cv (8 * k + n))).setOcc (s.occ ^^^ 2 ^ (l % 64))
  else (((((s.setLvl s.bufn l).setL s.bufn (fun k => s.stk ((l % 64) * 8 + k))).setR s.bufn (fun k => cv (8 * k + n))).setBufn (s.bufn + 1)).setOcc (s.occ ^^^ 2 ^ (l % 64)))
def CS.wt (s : CS) : Nat := pc s.occ.testBit 64 + 2 * s.bufn
theorem wt_push (s : CS) (l : Nat) (cv : Nat → Int) (n : Nat) : (pushF s l cv n).wt = s.wt + 1 := by
  have hq : l % 64 < 64 := Nat.mod_lt _ (by decide)
  unfold pushF
  split
  · rename_i h
    have := pc_flip (f := s.occ.testBit) (g := (s.occ ^^^ 2 ^ (l % 64)).testBit) 64 hq (fun i hi => xor_other hi) (bit_clear h) (by rw [xor_same, bit_clear h]; rfl)
    show pc (s.occ ^^^ 2 ^ (l % 64)).testBit 64 + 2 * s.bufn = pc s.occ.testBit 64 + 2 * s.bufn + 1
    omega
  · rename_i h
    have := pc_flip (f := (s.occ ^^^ 2 ^ (l % 64)).testBit) (g := s.occ.testBit) 64 hq (fun i hi => (xor_other hi).symm) (by rw [xor_same, bit_set h]; rfl) (bit_set h)
    show pc (s.occ ^^^ 2 ^ (l % 64)).testBit 64 + 2 * (s.bufn + 1) = pc s.occ.testBit 64 + 2 * s.bufn + 1
    omega
theorem bufn_push (s : CS) (l : Nat) (cv : Nat → Int) (n : Nat) : (pushF s l cv n).bufn ≤ s.bufn + 1 := by
  unfold pushF
  split
  · exact Nat.le_succ _
  · exact Nat.le_refl _
theorem ok_push {s : CS} (h : s.ok) {l : Nat} (hl : l < 256) (cv : Nat → Int) (n : Nat) (h8 : s.bufn < 8) : (pushF s l cv n).ok := by
  have hx : s.occ ^^^ 2 ^ (l % 64) < 2 ^ 64 := Nat.xor_lt_two_pow h.occ (pow_lt64 (Nat.mod_lt _ (by decide)))
  have hb := bufn_push s l cv n
  unfold pushF at *
  split
  · exact ⟨hx, h.lvls, h.bufn⟩
  · refine ⟨hx, fun i => ?_, h8⟩
    show upd s.lvls s.bufn l i < 256
    by_cases hi : i = s.bufn
    · subst hi; rw [upd_same]; exact hl
    · rw [upd_other _ _ hi]; exact h.lvls i
/-- What a flush hashed, a column each. -/
def hpO (L R K : Nat → Int) (flags : Int) (n : Nat) : Nat → Int := fun j => if j % 8 < n then hpF L R K flags (j % 8) (j / 8) else 0
/-- The first k of a flush's values laid anew. -/
def pshF (lv : Nat → Nat) (out : Nat → Int) : Nat → CS → CS
  | 0, s => s
  | k + 1, s => pushF (pshF lv out k s) ((lv k + 1) % 256) out k
def CS.out (s : CS) (flags : Int) (K : Nat → Int) : Nat → Int := hpO s.buf (fun i => s.buf (64 + i)) K (bw .or .u32 flags 4) s.bufn
def flushF (s : CS) (flags : Int) (K : Nat → Int) : CS := pshF s.lvls (s.out flags K) s.bufn (s.setBufn 0).clrLvl
theorem wt_psh (lv : Nat → Nat) (out : Nat → Int) (s : CS) : ∀ k, (pshF lv out k s).wt = s.wt + k
  | 0 => rfl
  | k + 1 => by rw [pshF, wt_push, wt_psh lv out s k]; omega
theorem bufn_psh (lv : Nat → Nat) (out : Nat → Int) (s : CS) : ∀ k, (pshF lv out k s).bufn ≤ s.bufn + k
  | 0 => Nat.le_refl _
  | k + 1 => by have := bufn_push (pshF lv out k s) ((lv k + 1) % 256) out k; have := bufn_psh lv out s k; rw [pshF]; omega
theorem ok_psh {s : CS} (h : s.ok) (h0 : s.bufn = 0) (lv : Nat → Nat) (out : Nat → Int) : ∀ k, k ≤ 8 → (pshF lv out k s).ok
  | 0, _ => h
  | k + 1, hk => ok_push (ok_psh h h0 lv out k (by omega)) (Nat.mod_lt _ (by decide)) _ _ (by have := bufn_psh lv out s k; omega)
theorem wt_flush (s : CS) (flags : Int) (K : Nat → Int) : (flushF s flags K).wt + s.bufn = s.wt := by
  rw [flushF, wt_psh]
  show pc s.occ.testBit 64 + 2 * 0 + s.bufn + s.bufn = pc s.occ.testBit 64 + 2 * s.bufn
  omega
theorem ok_clr {s : CS} (h : s.ok) : (s.setBufn 0).clrLvl.ok := ⟨h.occ, fun _ => by show 0 < 256; decide, Nat.zero_le _⟩
theorem ok_flush {s : CS} (h : s.ok) (flags : Int) (K : Nat → Int) : (flushF s flags K).ok := ok_psh (ok_clr h) rfl _ _ _ h.bufn
/-- The buffer emptied as often as it is full. -/
def fl8 (flags : Int) (K : Nat → Int) (s : CS) : CS := if s.bufn = 8 then fl8 flags K (flushF s flags K) else s
termination_by s.wt
decreasing_by have := wt_flush s flags K; omega
/-- The buffer emptied until nothing is in it. -/
def fl0 (flags : Int) (K : Nat → Int) (s : CS) : CS := if 0 < s.bufn then fl0 flags K (flushF s flags K) else s
termination_by s.wt
decreasing_by have := wt_flush s flags K; omega
theorem ok_fl8 (flags : Int) (K : Nat → Int) (s : CS) (h : s.ok) : (fl8 flags K s).ok ∧ (fl8 flags K s).bufn < 8 := by
  unfold fl8
  split
  · exact ok_fl8 flags K _ (ok_flush h flags K)
  · exact ⟨h, by have := h.bufn; omega⟩
termination_by s.wt
decreasing_by have := wt_flush s flags K; omega
theorem ok_fl0 (flags : Int) (K : Nat → Int) (s : CS) (h : s.ok) : (fl0 flags K s).ok := by
  unfold fl0
  split
  · exact ok_fl0 flags K _ (ok_flush h flags K)
  · exact h
termination_by s.wt
decreasing_by have := wt_flush s flags K; omega
/-- n values laid at level 0. -/
def pushNF (flags : Int) (K : Nat → Int) (cv : Nat → Int) (s : CS) : Nat → CS
  | 0 => s
  | k + 1 => fl8 flags K (pushF (pushNF flags K cv s k) 0 cv k)
theorem ok_pushN {s : CS} (h : s.ok) (h8 : s.bufn < 8) (flags : Int) (K : Nat → Int) (cv : Nat → Int) : ∀ n, (pushNF flags K cv s n).ok ∧ (pushNF flags K cv s n).bufn < 8
  | 0 => ⟨h, h8⟩
  | k + 1 => ok_fl8 _ _ _ (ok_push (ok_pushN h h8 flags K cv k).1 (by decide) _ _ (ok_pushN h h8 flags K cv k).2)
end Go.Proofs.YtfaopfaghnefdaaDoor
