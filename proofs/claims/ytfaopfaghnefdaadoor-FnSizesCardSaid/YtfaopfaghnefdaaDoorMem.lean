/- Memory told block by block: a block's cells as a function from places to values; what a step leaves alone; slices, new blocks, stores. Conditions: those of each operation; over any program. -/
import Derived.Test.YtfaopfaghnefdaaDoorOps
namespace Go.Proofs.YtfaopfaghnefdaaDoor
open Go
/-- Block g has n cells, told by c, of element type t; none is frozen. -/
def Blk (w : World) (g n : Nat) (c : Nat → Value) (t : TypeId) : Prop := w.heap[g]? = some (.cells (Array.ofFn (n := n) fun i => c i.val) t (0, 0))
/-- Of what was there only the blocks of the list may have turned. -/
structure Mod (T : List Nat) (w w' : World) : Prop where
  os : w'.os = w.os
  tape : w'.tape = w.tape
  output : w'.output = w.output
  size : w.heap.size ≤ w'.heap.size
  same : ∀ k, k < w.heap.size → k ∉ T → w'.heap[k]? = w.heap[k]?
/-- n cells of block b from o on hold these numbers. -/
def Rd (w : World) (b o n : Nat) (kd : IntKind) (x : Nat → Int) : Prop := ∀ i, i < n → w.cell? ⟨b, o + i, none⟩ = some (.int kd (x i))

section
variable {w w' w'' : World} {g n : Nat} {c : Nat → Value} {t : TypeId} {T T' : List Nat}
theorem Blk.lt (h : Blk w g n c t) : g < w.heap.size := by
  rcases Nat.lt_or_ge g w.heap.size with h' | h'
  · exact h'
  · unfold Blk at h; rw [Array.getElem?_eq_none h'] at h; cases h
theorem Blk.cell (h : Blk w g n c t) {i : Nat} (hi : i < n) : w.cell? ⟨g, i, none⟩ = some (c i) := by
  unfold Blk at h
  simp [World.cell?, h, hi]
theorem Blk.frozen (h : Blk w g n c t) (i : Nat) : w.frozen? ⟨g, i, none⟩ = false := by
  unfold Blk at h
  simp [World.frozen?, h]
theorem Blk.rd (h : Blk w g n c t) {o m : Nat} {kd : IntKind} {x : Nat → Int} (hb : o + m ≤ n) (hx : ∀ i, i < m → c (o + i) = .int kd (x i)) : Rd w g o m kd x :=
  fun i hi => by rw [h.cell (by omega), hx i hi]
theorem Blk.congr (h : Blk w g n c t) {c' : Nat → Value} (hc : ∀ i, i < n → c' i = c i) : Blk w g n c' t := by
  unfold Blk at *
  rw [h]
  congr 2
  apply Array.ext
  · simp
  · intro i h1 h2
    simp only [Array.getElem_ofFn]
    exact (hc i (by simpa using h1)).symm
theorem Mod.refl (T : List Nat) (w : World) : Mod T w w := ⟨rfl, rfl, rfl, Nat.le_refl _, fun _ _ _ => rfl⟩
theorem Mod.trans (h : Mod T w w') (h' : Mod T' w' w'') (hT : ∀ k, k ∈ T' → k ∈ T ∨ w.heap.size ≤ k) : Mod T w w'' :=
  ⟨h'.os.trans h.os, h'.tape.trans h.tape, h'.output.trans h.output, Nat.le_trans h.size h'.size, fun k hk hn =>
    (h'.same k (Nat.lt_of_lt_of_le hk h.size) (fun hm => (hT k hm).elim hn (fun hs => absurd hk (by omega)))).trans (h.same k hk hn)⟩
theorem Mod.more (h : Mod T w w') (hT : ∀ k, k ∈ T → k ∈ T' ∨ w.heap.size ≤ k) : Mod T' w w' :=
  ⟨h.os, h.tape, h.output, h.size, fun k hk hn => h.same k hk (fun hm => (hT k hm).elim hn (fun hs => absurd hk (by omega)))⟩
theorem Mod.blk (h : Mod T w w') (hb : Blk w g n c t) (hg : g ∉ T) : Blk w' g n c t := by
  unfold Blk at *
  rw [h.same g (Blk.lt hb) hg, hb]
theorem lt_of_cell {a : Addr} {v : Value} (h : w.cell? a = some v) : a.block < w.heap.size := World.block_lt_of_cell? w a h
theorem Mod.cell (h : Mod T w w') {a : Addr} {v : Value} (ha : w.cell? a = some v) (hg : a.block ∉ T) : w'.cell? a = some v := by
  have hs := h.same a.block (lt_of_cell ha) hg
  unfold World.cell? at *
  rw [hs]; exact ha
theorem Mod.rd (h : Mod T w w') {b o m : Nat} {kd : IntKind} {x : Nat → Int} (hr : Rd w b o m kd x) (hg : b ∉ T) : Rd w' b o m kd x :=
  fun i hi => h.cell (hr i hi) hg
theorem Mod.drew (T : List Nat) (w : World) : Mod T w w.drew := ⟨rfl, rfl, rfl, Nat.le_refl _, fun _ _ _ => rfl⟩
theorem Blk.drew (h : Blk w g n c t) : Blk w.drew g n c t := h
theorem Rd.drew {b o m : Nat} {kd : IntKind} {x : Nat → Int} (hr : Rd w b o m kd x) : Rd w.drew b o m kd x := hr
/-- One store. -/
theorem Blk.set (h : Blk w g n c t) {i : Nat} (v : Value) (_hi : i < n) : Blk (w.setCell ⟨g, i, none⟩ v) g n (upd c i v) t := by
  unfold Blk at *
  simp only [World.setCell, Array.getElem?_modify, if_true, h, Option.map_some]
  congr 2
  apply Array.ext
  · simp
  · intro j h1 h2
    rw [Array.getElem_ofFn]
    simp only [Option.isSome_none, Bool.false_eq_true, if_false]
    rw [Array.getElem_setIfInBounds]
    by_cases hj : i = j
    · subst hj; rw [if_pos rfl]; exact (upd_same _ _ _).symm
    · rw [if_neg hj, Array.getElem_ofFn]
      exact (upd_other _ _ (Ne.symm hj)).symm
    · simpa using h2
theorem Mod.set (w : World) (g i : Nat) (v : Value) : Mod [g] w (w.setCell ⟨g, i, none⟩ v) :=
  ⟨rfl, rfl, rfl, by simp [World.setCell], fun k _ hn => by
    simp only [World.setCell, Array.getElem?_modify]
    rw [if_neg (fun e => hn (by simp [← e]))]⟩
/-- A new block. -/
theorem Mod.alloc (w : World) (o : Obj) : Mod [] w (w.alloc o) :=
  ⟨rfl, rfl, rfl, by simp, fun k hk _ => by
    show (w.heap.push o)[k]? = _
    rw [Array.getElem?_push, if_neg (by omega)]⟩
theorem Blk.new (w : World) (n : Nat) (c : Nat → Value) (t : TypeId) : Blk (w.alloc (.cells (Array.ofFn (n := n) fun i => c i.val) t)) w.heap.size n c t := by
  show (w.heap.push _)[w.heap.size]? = _
  simp
theorem size_alloc (w : World) (o : Obj) : (w.alloc o).heap.size = w.heap.size + 1 := by simp

/-- A function with m places from o on told anew. -/
def put (c : Nat → Value) (o m : Nat) (f : Nat → Value) : Nat → Value := fun j => if o ≤ j ∧ j < o + m then f (j - o) else c j
theorem put_in (c : Nat → Value) {o m : Nat} (f : Nat → Value) {j : Nat} (h : o ≤ j ∧ j < o + m) : put c o m f j = f (j - o) := if_pos h
theorem put_at (c : Nat → Value) {o m : Nat} (f : Nat → Value) {i : Nat} (h : i < m) : put c o m f (o + i) = f i := by
  rw [put_in c f (by omega)]; congr 1; omega
theorem put_out (c : Nat → Value) {o m : Nat} (f : Nat → Value) {j : Nat} (h : ¬ (o ≤ j ∧ j < o + m)) : put c o m f j = c j := if_neg h
theorem put_zero (c : Nat → Value) (o : Nat) (f : Nat → Value) : put c o 0 f = c := by
  funext j; exact put_out c f (by omega)
theorem put_snoc (c : Nat → Value) (o m : Nat) (f : Nat → Value) (v : Value) (hv : v = f m) : upd (put c o m f) (o + m) v = put c o (m + 1) f := by
  funext j
  by_cases hj : j = o + m
  · subst hj; rw [upd_same, put_at c f (by omega), hv]
  · rw [upd_other _ _ hj]
    by_cases h : o ≤ j ∧ j < o + m
    · rw [put_in c f h, put_in c f (by omega)]
    · rw [put_out c f h, put_out c f (by omega)]
theorem put_app (c : Nat → Value) (o m q : Nat) (f h : Nat → Value) (hv : ∀ i, i < q → h i = f (m + i)) : put (put c o m f) (o + m) q h = put c o (m + q) f := by
  funext j
  by_cases hj : o + m ≤ j ∧ j < o + m + q
  · rw [put_in _ h hj, put_in c f (by omega), hv _ (by omega)]
    congr 1; omega
  · rw [put_out _ h hj]
    by_cases h' : o ≤ j ∧ j < o + m
    · rw [put_in c f h', put_in c f (by omega)]
    · rw [put_out c f h', put_out c f (by omega)]
theorem put_put (c : Nat → Value) (o m : Nat) (f h : Nat → Value) : put (put c o m f) o m h = put c o m h := by
  funext j
  by_cases hj : o ≤ j ∧ j < o + m
  · rw [put_in _ h hj, put_in _ h hj]
  · rw [put_out _ h hj, put_out _ h hj, put_out _ f hj]
theorem put_congr (c : Nat → Value) (o m : Nat) {f h : Nat → Value} (hv : ∀ i, i < m → f i = h i) : put c o m f = put c o m h := by
  funext j
  by_cases hj : o ≤ j ∧ j < o + m
  · rw [put_in _ f hj, put_in _ h hj, hv _ (by omega)]
  · rw [put_out _ f hj, put_out _ h hj]
end

section
variable {P : Program} {ρ : Operand → Value} {w : World} {dst : Option Tmp} {ty : TypeId} {pos : String} {af : Array Edge} {gd : Option (Nat × Bool)}
/-- Storing at a known block. -/
theorem r_storeB {x y : Operand} {t g i n : Nat} {c : Nat → Value} {v : Value} {te : TypeId} (hx : ρ x = .pointer (some ⟨g, i, none⟩)) (hy : ρ y = v) (h : OneC P t) (hv : v.oneCell' = true) (hB : Blk w g n c te) (hi : i < n) :
    (execOp ρ ⟨dst, .store t x y, ty, pos, af, gd⟩).run P w = .ok .skip (w.setCell ⟨g, i, none⟩ v) :=
  r_store hx hy h hv (hB.cell hi) (hB.frozen i)
theorem r_loadB {x : Operand} {t g i n : Nat} {c : Nat → Value} {te : TypeId} (hx : ρ x = .pointer (some ⟨g, i, none⟩)) (h : OneC P t) (hB : Blk w g n c te) (hi : i < n) :
    (execOp ρ ⟨dst, .load t x, ty, pos, af, gd⟩).run P w = .ok (.value (c i)) w :=
  r_load hx h (hB.cell hi)

/-! ### slices -/
theorem run_sliceBound {kd : IntKind} {i : Int} {y : Nat} {code : BoundsCode} (h0 : 0 ≤ i) (h1 : i ≤ (y : Int)) : (Instr.sliceBound (.int kd i) y code).run P w = .ok i.toNat w := by
  simp [Instr.sliceBound, asIntOf, h0, h1]
variable {x lo hi : Operand} {t es b o n c : Nat} {k1 k2 : IntKind} {l h : Int}
/-- x[l:h] of a slice. -/
theorem r_slc_lh (hx : ρ x = .slice (some ⟨b, o, none⟩) n c) (hl : ρ lo = .int k1 l) (hh : ρ hi = .int k2 h) (ht : SlcAt P t es) (h0 : 0 ≤ l) (h1 : l ≤ h) (h2 : h ≤ (c : Int)) (h3 : l < (c : Int)) :
    (execOp ρ ⟨dst, .slice t x (some lo) (some hi) none, ty, pos, af, gd⟩).run P w = .ok (.value (.slice (some ⟨b, o + l.toNat * es, none⟩) (h.toNat - l.toNat) (c - l.toNat))) w := by
  obtain ⟨e, hs, hz⟩ := ht
  have hz' := fun w => run_sizeOf (w := w) hz
  have hs' := fun w => run_under (w := w) hs
  have b1 := fun w code => run_sliceBound (P := P) (w := w) (kd := k2) (i := h) (y := c) (code := code) (by omega) h2
  have b2 := fun w code => run_sliceBound (P := P) (w := w) (kd := k1) (i := l) (y := h.toNat) (code := code) h0 (by omega)
  have hne : ¬ c = l.toNat := by omega
  simp [execOp, Instr.sliceAt, hs', hx, hl, hh, Instr.slice, Instr.sliceBounds, b1, b2, hz', hne, add_mid]
/-- x[l:] of a slice, something left of its room. -/
theorem r_slc_l (hx : ρ x = .slice (some ⟨b, o, none⟩) n c) (hl : ρ lo = .int k1 l) (ht : SlcAt P t es) (h0 : 0 ≤ l) (h1 : l ≤ (n : Int)) (h3 : l < (c : Int)) :
    (execOp ρ ⟨dst, .slice t x (some lo) none none, ty, pos, af, gd⟩).run P w = .ok (.value (.slice (some ⟨b, o + l.toNat * es, none⟩) (n - l.toNat) (c - l.toNat))) w := by
  obtain ⟨e, hs, hz⟩ := ht
  have hz' := fun w => run_sizeOf (w := w) hz
  have hs' := fun w => run_under (w := w) hs
  have b2 := fun w code => run_sliceBound (P := P) (w := w) (kd := k1) (i := l) (y := n) (code := code) h0 h1
  have hne : ¬ c = l.toNat := by omega
  simp [execOp, Instr.sliceAt, hs', hx, hl, Instr.slice, Instr.sliceBounds, b2, hz', hne, add_mid]
/-- x[l:] of a slice, nothing left of its room: the address stays. -/
theorem r_slc_end {ao : Option Addr} (hx : ρ x = .slice ao n c) (hl : ρ lo = .int k1 l) (ht : SlcAt P t es) (h0 : 0 ≤ l) (h1 : l ≤ (n : Int)) (h3 : l = (c : Int)) :
    (execOp ρ ⟨dst, .slice t x (some lo) none none, ty, pos, af, gd⟩).run P w = .ok (.value (.slice ao (n - l.toNat) (c - l.toNat))) w := by
  obtain ⟨e, hs, hz⟩ := ht
  have hz' := fun w => run_sizeOf (w := w) hz
  have hs' := fun w => run_under (w := w) hs
  have b2 := fun w code => run_sliceBound (P := P) (w := w) (kd := k1) (i := l) (y := n) (code := code) h0 h1
  have hne : c = l.toNat := by omega
  simp [execOp, Instr.sliceAt, hs', hx, hl, Instr.slice, Instr.sliceBounds, b2, hz', ← hne]
/-- x[:h] of a slice. -/
theorem r_slc_h {ao : Option Addr} (hx : ρ x = .slice ao n c) (hh : ρ hi = .int k2 h) (ht : SlcAt P t es) (h0 : 0 ≤ h) (h2 : h ≤ (c : Int)) :
    (execOp ρ ⟨dst, .slice t x none (some hi) none, ty, pos, af, gd⟩).run P w = .ok (.value (.slice ao h.toNat c)) w := by
  obtain ⟨e, hs, hz⟩ := ht
  have hz' := fun w => run_sizeOf (w := w) hz
  have hs' := fun w => run_under (w := w) hs
  have b1 := fun w code => run_sliceBound (P := P) (w := w) (kd := k2) (i := h) (y := c) (code := code) h0 h2
  have hid : ao.map (fun x => x.add 0) = ao := by cases ao <;> simp [Addr.add]
  simp [execOp, Instr.sliceAt, hs', hx, hh, Instr.slice, Instr.sliceBounds, b1, hz', hid]
/-- x[:] of an array behind a pointer. -/
theorem r_arr_all (hx : ρ x = .pointer (some ⟨b, o, none⟩)) (ht : ArrAt P t n es) :
    (execOp ρ ⟨dst, .slice t x none none none, ty, pos, af, gd⟩).run P w = .ok (.value (.slice (some ⟨b, o, none⟩) n n)) w := by
  obtain ⟨e, hs, hz⟩ := ht
  have hz' := fun w => run_sizeOf (w := w) hz
  have hs' := fun w => run_under (w := w) hs
  simp [execOp, Instr.sliceAt, hs', hx, Instr.sureAddr, Instr.sliceBounds, hz', add_mid]
theorem r_arr_l (hx : ρ x = .pointer (some ⟨b, o, none⟩)) (hl : ρ lo = .int k1 l) (ht : ArrAt P t n es) (h0 : 0 ≤ l) (h1 : l < (n : Int)) :
    (execOp ρ ⟨dst, .slice t x (some lo) none none, ty, pos, af, gd⟩).run P w = .ok (.value (.slice (some ⟨b, o + l.toNat * es, none⟩) (n - l.toNat) (n - l.toNat))) w := by
  obtain ⟨e, hs, hz⟩ := ht
  have hz' := fun w => run_sizeOf (w := w) hz
  have hs' := fun w => run_under (w := w) hs
  have b2 := fun w code => run_sliceBound (P := P) (w := w) (kd := k1) (i := l) (y := n) (code := code) h0 (by omega)
  have hne : ¬ n = l.toNat := by omega
  simp [execOp, Instr.sliceAt, hs', hx, hl, Instr.sureAddr, Instr.sliceBounds, b2, hz', hne, add_mid]
theorem r_arr_h (hx : ρ x = .pointer (some ⟨b, o, none⟩)) (hh : ρ hi = .int k2 h) (ht : ArrAt P t n es) (h0 : 0 ≤ h) (h1 : h ≤ (n : Int)) :
    (execOp ρ ⟨dst, .slice t x none (some hi) none, ty, pos, af, gd⟩).run P w = .ok (.value (.slice (some ⟨b, o, none⟩) h.toNat n)) w := by
  obtain ⟨e, hs, hz⟩ := ht
  have hz' := fun w => run_sizeOf (w := w) hz
  have hs' := fun w => run_under (w := w) hs
  have b1 := fun w code => run_sliceBound (P := P) (w := w) (kd := k2) (i := h) (y := n) (code := code) h0 h1
  simp [execOp, Instr.sliceAt, hs', hx, hh, Instr.sureAddr, Instr.sliceBounds, b1, hz', add_mid]
theorem r_arr_lh (hx : ρ x = .pointer (some ⟨b, o, none⟩)) (hl : ρ lo = .int k1 l) (hh : ρ hi = .int k2 h) (ht : ArrAt P t n es) (h0 : 0 ≤ l) (h1 : l ≤ h) (h2 : h ≤ (n : Int)) (h3 : l < (n : Int)) :
    (execOp ρ ⟨dst, .slice t x (some lo) (some hi) none, ty, pos, af, gd⟩).run P w = .ok (.value (.slice (some ⟨b, o + l.toNat * es, none⟩) (h.toNat - l.toNat) (n - l.toNat))) w := by
  obtain ⟨e, hs, hz⟩ := ht
  have hz' := fun w => run_sizeOf (w := w) hz
  have hs' := fun w => run_under (w := w) hs
  have b1 := fun w code => run_sliceBound (P := P) (w := w) (kd := k2) (i := h) (y := n) (code := code) (by omega) h2
  have b2 := fun w code => run_sliceBound (P := P) (w := w) (kd := k1) (i := l) (y := h.toNat) (code := code) h0 (by omega)
  have hne : ¬ n = l.toNat := by omega
  simp [execOp, Instr.sliceAt, hs', hx, hl, hh, Instr.sureAddr, Instr.sliceBounds, b1, b2, hz', hne, add_mid]
/-- a slice as a pointer to an array. -/
theorem r_s2a {arr len cp : Nat} {a : Addr} {e : Nat} (hx : ρ x = .slice (some a) len cp) (ht : P.underlying arr = some (.array n e)) (hn : n ≤ len) :
    (execOp ρ ⟨dst, .sliceToArrayPointer arr x, ty, pos, af, gd⟩).run P w = .ok (.value (.pointer (some a))) w := by
  have hs' := fun w => run_under (w := w) ht
  have hlt : ¬ len < n := by omega
  simp [execOp, Instr.arrayAt, hs', hx, hlt]
/-- A new variable, its cells told by a function. -/
def ZeroIs (P : Program) (t n : Nat) (c : Nat → Value) : Prop := ∃ v : Value, (P.info? t).map (·.zero) = some (some v) ∧ v.cells = Array.ofFn (n := n) fun i => c i.val
theorem r_alloc {cf : Nat → Value} (h : ZeroIs P t n cf) : (execOp ρ ⟨dst, .alloc t, ty, pos, af, gd⟩).run P w = .ok (.value (.pointer (some ⟨w.heap.size, 0, none⟩))) (w.alloc (.cells (Array.ofFn (n := n) fun i => cf i.val) t)) := by
  obtain ⟨v, hv, hc⟩ := h
  cases hq : P.info? t with
  | none => simp [hq] at hv
  | some i =>
    have hz : i.zero = some v := by simpa [hq] using hv
    simp [execOp, Instr.alloc, zeroValue, typeInfo, hq, hz, newVar, newRow, hc]
end
end Go.Proofs.YtfaopfaghnefdaaDoor
