/- Whole arrays by value: loaded, stored, put together; a choice of two; guards. Conditions: those of each operation; over any program. -/
import Derived.Test.YtfaopfaghnefdaaDoorMem
namespace Go.Proofs.YtfaopfaghnefdaaDoor
open Go
/-- m cells by value. -/
def aggF (m : Nat) (f : Nat → Value) : Value := .agg (Array.ofFn (n := m) fun i => f i.val)
theorem aggF_size (m : Nat) (f : Nat → Value) : (aggF m f).cells.size = m := by simp [aggF, Value.cells]
/-- m cells of block b from o on written. -/
def putC (w : World) (b o m : Nat) (f : Nat → Value) : World := w.setCells b o (Array.ofFn (n := m) fun i => f i.val).toList
section
variable {w : World} {g n : Nat} {c : Nat → Value} {t : TypeId}
theorem put_cons (c : Nat → Value) (o m : Nat) (v : Value) (f : Nat → Value) : put (upd c o v) (o + 1) m f = put c o (m + 1) (fun i => match i with | 0 => v | j + 1 => f j) := by
  funext j
  by_cases h : o + 1 ≤ j ∧ j < o + 1 + m
  · rw [put_in _ _ h, put_in _ _ (by omega)]
    obtain ⟨i, rfl⟩ : ∃ i, j = o + 1 + i := ⟨j - (o + 1), by omega⟩
    rw [show o + 1 + i - (o + 1) = i by omega, show o + 1 + i - o = i + 1 by omega]
  · rw [put_out _ _ h]
    by_cases hj : j = o
    · subst hj
      rw [upd_same, put_in _ _ (by omega), Nat.sub_self]
    · rw [upd_other _ _ hj, put_out _ _ (by omega)]
theorem Blk.setCells : ∀ (l : List Value) (o : Nat) (c : Nat → Value) (w : World), Blk w g n c t → o + l.length ≤ n → Blk (w.setCells g o l) g n (put c o l.length (fun i => l.getD i undef)) t
  | [], o, c, w, h, _ => by rw [List.length_nil, put_zero]; exact h
  | v :: r, o, c, w, h, ho => by
    have hlen : o + (r.length + 1) ≤ n := by simpa using ho
    have h1 := Blk.setCells r (o + 1) _ _ (h.set (i := o) v (by omega)) (by omega)
    rw [put_cons] at h1
    refine (congrArg (fun c => Blk _ g n c t) (put_congr c o (r.length + 1) fun i hi => ?_)).mp h1
    cases i <;> simp
theorem Mod.setCells : ∀ (l : List Value) (o : Nat) (w : World), Mod [g] w (w.setCells g o l)
  | [], _, w => Mod.refl _ _
  | v :: r, o, w => (Mod.set w g o v).trans (Mod.setCells r (o + 1) _) (by simp)
theorem Blk.putC {o m : Nat} {f : Nat → Value} (h : Blk w g n c t) (ho : o + m ≤ n) : Blk (putC w g o m f) g n (put c o m f) t := by
  have h1 := Blk.setCells (Array.ofFn (n := m) fun i => f i.val).toList o c w h (by simpa using ho)
  have hl : (Array.ofFn (n := m) fun i => f i.val).toList.length = m := by simp
  rw [hl] at h1
  refine (congrArg (fun c => Blk _ g n c t) (put_congr c o m fun i hi => ?_)).mp h1
  simp [List.getD, hi]
theorem Rd.putC {b o m q o' : Nat} {kd : IntKind} {x : Nat → Int} {f : Nat → Value} (h : Rd w b o m kd x) (hd : b ≠ g ∨ o + m ≤ o' ∨ o' + q ≤ o) : Rd (putC w g o' q f) b o m kd x := fun i hi => by
  unfold Go.Proofs.YtfaopfaghnefdaaDoor.putC
  rw [World.cell?_setCells_out]
  · exact h i hi
  · intro hb _
    have hb' : b = g := hb
    simp only [Array.length_toList, Array.size_ofFn]
    omega
theorem Mod.putC (w : World) (g o m : Nat) (f : Nat → Value) : Mod [g] w (putC w g o m f) := Mod.setCells _ _ _
end
section
variable {P : Program} {ρ : Operand → Value} {w : World} {dst : Option Tmp} {ty : TypeId} {pos : String} {af : Array Edge} {gd : Option (Nat × Bool)}
/-- A type of m cells that is an array or a struct. -/
def AggT (P : Program) (t m : Nat) : Prop := ∃ d, P.underlying t = some d ∧ d.isRow = true ∧ SizeIs P t m
theorem r_loadA {x : Operand} {t b o m : Nat} {f : Nat → Value} (hx : ρ x = .pointer (some ⟨b, o, none⟩)) (h : AggT P t m) (hc : ∀ j, j < m → w.cell? ⟨b, o + j, none⟩ = some (f j)) :
    (execOp ρ ⟨dst, .load t x, ty, pos, af, gd⟩).run P w = .ok (.value (aggF m f)) w := by
  obtain ⟨d, hu, hd, hi⟩ := h
  have hl : (Instr.loadAt t (.pointer (some ⟨b, o, none⟩))).run P w = .ok (.agg (Array.ofFn (n := m) fun i => f i.val).toList.toArray) w :=
    run_loadAt_mid w b o t (Array.ofFn (n := m) fun i => f i.val).toList d (fun j v hv => by
      have hj : j < m := by
        rcases Nat.lt_or_ge j m with h' | h'
        · exact h'
        · simp [h'] at hv
      rw [hc j hj]
      simpa [hj] using hv) hu hd (by rw [show (P.info? t).map (·.size) = some m from hi]; simp)
  rw [Array.toArray_toList] at hl
  simp [execOp, hx, hl, aggF]
theorem r_storeA {x y : Operand} {t g o m n : Nat} {c f : Nat → Value} {te : TypeId} (hx : ρ x = .pointer (some ⟨g, o, none⟩)) (hy : ρ y = aggF m f) (h : AggT P t m) (h1 : ∀ i, i < m → (f i).oneCell' = true) (hB : Blk w g n c te) (ho : o + m ≤ n) :
    (execOp ρ ⟨dst, .store t x y, ty, pos, af, gd⟩).run P w = .ok .skip (putC w g o m f) := by
  obtain ⟨d, hu, hd, hi⟩ := h
  have hl := run_storeAt_mid (P := P) w g o t (Array.ofFn (n := m) fun i => f i.val) (fun j hj => by
      have hj' : j < m := by simpa using hj
      exact ⟨by rw [hB.cell (by omega)]; rfl, hB.frozen _⟩) (by rw [show (P.info? t).map (·.size) = some m from hi]; simp) (by
      rw [Array.all_eq_true]
      intro i hi
      simpa using h1 i (by simpa using hi))
  simp [execOp, hx, hy, aggF, hl, putC]
theorem fill_ones : ∀ (l : List Value) (k : Nat) (cells : Array Value), (∀ v ∈ l, v.oneCell' = true) → k + l.length ≤ cells.size →
    ∃ r, Instr.fill (fun i => some (i * 1, 1)) cells ((List.range' k l.length).zip l) = some r ∧ r.size = cells.size ∧ ∀ j, r[j]? = if k ≤ j ∧ j < k + l.length then l[j - k]? else cells[j]?
  | [], k, cells, _, _ => ⟨cells, rfl, rfl, fun j => by rw [if_neg (by simp)]⟩
  | v :: l, k, cells, hv, hk => by
    have hlen : k + (l.length + 1) ≤ cells.size := by simpa using hk
    have hcs : v.cells = #[v] := by
      have h1 := hv v (by simp)
      cases v <;> simp_all [Value.cells, Value.oneCell']
    obtain ⟨r, hr, hs, hj⟩ := fill_ones l (k + 1) (cells.setIfInBounds k v) (fun u hu => hv u (by simp [hu])) (by simp; omega)
    refine ⟨r, ?_, by simpa using hs, fun j => ?_⟩
    · simp only [List.length_cons, List.range'_succ, List.zip_cons_cons, Instr.fill, hcs]
      rw [if_neg (by simp; omega)]
      simpa using hr
    · rw [hj]
      by_cases h : k + 1 ≤ j ∧ j < k + 1 + l.length
      · rw [if_pos h, if_pos (by simp; omega)]
        obtain ⟨i, rfl⟩ : ∃ i, j = k + 1 + i := ⟨j - (k + 1), by omega⟩
        rw [show k + 1 + i - (k + 1) = i by omega, show k + 1 + i - k = i + 1 by omega]
        simp
      · rw [if_neg h]
        by_cases hjk : j = k
        · subst hjk
          rw [if_pos (by simp)]
          simp [show j < cells.size by omega]
        · rw [if_neg (by simp; omega)]
          simp [Ne.symm hjk]
/-- An array literal with all its parts, each of one cell. -/
theorem r_buildA {t e m : Nat} {l : List Operand} {z : Value} (hz : (P.info? t).map (·.zero) = some (some z)) (hzs : z.cells.size = m) (hu : P.underlying t = some (.array m e)) (he : SizeIs P e 1) (hl : l.length = m) (h1 : (l.map ρ).all (·.oneCell') = true)
    {f : Nat → Value} (hf : ∀ i, i < m → f i = (l.map ρ).getD i undef) :
    (execOp ρ ⟨dst, .build t ((List.range' 0 l.length).zip l).toArray, ty, pos, af, gd⟩).run P w = .ok (.value (aggF m f)) w := by
  have hzr : (zeroValue t).run P w = .ok z w := by
    cases hq : P.info? t with
    | none => simp [hq] at hz
    | some i =>
      have : i.zero = some z := by simpa [hq] using hz
      simp [zeroValue, typeInfo, hq, this]
  have hs' := fun w => run_under (w := w) hu
  have he' := fun w => run_sizeOf (w := w) he
  obtain ⟨r, hr, hsz, hj⟩ := fill_ones (l.map ρ) 0 z.cells (by simpa using h1) (by simp; omega)
  have hp : ((((List.range' 0 l.length).zip l).toArray.map fun (i, x) => (i, ρ x)).toList) = (List.range' 0 (l.map ρ).length).zip (l.map ρ) := by
    simp [List.zip_map_right, Prod.map]
  have hra : r = Array.ofFn (n := m) fun i => f i.val := by
    apply Array.ext_getElem?
    intro j
    rw [hj j]
    by_cases hjm : j < m
    · rw [if_pos (by simp; omega)]
      simp [hjm, hf j hjm, hl]
    · rw [if_neg (by simp; omega)]
      simp [hjm]; omega
  simp only [execOp, Instr.build]
  simp [hzr, hs', he', aggF]
  simp at hp hr
  rw [hp, hr]
  simp [hra]
theorem r_pick {c x y : Operand} {b : Bool} (hc : ρ c = .bool b) : (execOp ρ ⟨dst, .pick c x y, ty, pos, af, gd⟩).run P w = .ok (.value (if b then ρ x else ρ y)) w := by
  simp [execOp, hc, asBool]
end
end Go.Proofs.YtfaopfaghnefdaaDoor
