/- Strings and bytes: a slice as a string, a string's length and its parts, copies, a slice made and one that grows, lengths. Conditions: those of each operation; over any program. -/
import Derived.Test.YtfaopfaghnefdaaDoorStk2
import Derived.Laws.BytesString
import Derived.ArgAppend
namespace Go.Proofs.YtfaopfaghnefdaaDoor
open Go
/-- n bytes as a string. -/
def bs (d : Nat → Int) (n : Nat) : ByteArray := ⟨Array.ofFn (n := n) fun i => UInt8.ofNat (d i.val).toNat⟩
/-- A number as a byte. -/
def c8 (x : Int) : Int := ((UInt8.ofNat x.toNat).toNat : Int)
theorem bs_size (d : Nat → Int) (n : Nat) : (bs d n).size = n := by simp [bs, ByteArray.size]
theorem bs_congr {d e : Nat → Int} {n : Nat} (h : ∀ i, i < n → d i = e i) : bs d n = bs e n := by
  unfold bs
  congr 1
  apply Array.ext
  · simp
  · intro i h1 h2
    simp only [Array.getElem_ofFn]
    rw [h i (by simpa using h1)]
theorem bs_extract (d : Nat → Int) (n : Nat) {l h : Nat} (h1 : l ≤ h) (h2 : h ≤ n) : (bs d n).extract l h = bs (fun i => d (l + i)) (h - l) := by
  apply ByteArray.ext
  rw [ByteArray.data_extract]
  apply Array.ext
  · simp [bs]; omega
  · intro i h3 h4
    simp [bs]
theorem bs_succ (d : Nat → Int) (n : Nat) : bs d (n + 1) = (bs d n).push (UInt8.ofNat (d n).toNat) := by
  unfold bs ByteArray.push
  congr 1
  apply Array.ext
  · simp
  · intro i h1 h2
    simp only [Array.getElem_ofFn, Array.getElem_push, Array.size_ofFn]
    split
    · rfl
    · have : i = n := by simp at h1; omega
      subst this; rfl
theorem bs_foldl (d : Nat → Int) : ∀ n, ((List.range n).map d).foldl (fun r x => r.push (UInt8.ofNat x.toNat)) ByteArray.empty = bs d n
  | 0 => rfl
  | n + 1 => by rw [List.range_succ, List.map_append, List.foldl_append, bs_foldl d n, bs_succ]; rfl
theorem bs_bytes (d : Nat → Int) (n : Nat) {m : Nat} (h : m ≤ n) : ((bs d n).extract 0 m).data.map (fun b => Value.int .u8 b.toNat) = Array.ofFn (n := m) fun i => Value.int .u8 (c8 (d i.val)) := by
  rw [bs_extract d n (Nat.zero_le _) h]
  apply Array.ext
  · simp [bs]
  · intro i h1 h2
    simp [bs, c8]
theorem addr_off (b o j : Nat) : (⟨b, o, none⟩ : Addr).add j = ⟨b, o + j, none⟩ := Addr.add_lit _ _ _
section
variable {P : Program} {ρ : Operand → Value} {w : World} {dst : Option Tmp} {ty : TypeId} {pos : String} {af : Array Edge} {gd : Option (Nat × Bool)} {x y : Operand} {t e : TypeId}
theorem run_loadRd {b o n : Nat} {kd : IntKind} {d : Nat → Int} (h : Rd w b o n kd d) : (loadCells ⟨b, o, none⟩ n).run P w = .ok ((List.range n).map fun i => Value.int kd (d i)).toArray w := by
  have := run_loadCells_list (P := P) w ⟨b, o, none⟩ ((List.range n).map fun i => Value.int kd (d i)) (fun j v hv => by
    have hj : j < n := by
      rcases Nat.lt_or_ge j n with h' | h'
      · exact h'
      · simp [h'] at hv
    rw [addr_off, h j hj]
    simpa [hj] using hv)
  simpa using this
theorem r_b2s {src dt : TypeId} {b o n c : Nat} {d : Nat → Int} (hx : ρ x = .slice (some ⟨b, o, none⟩) n c) (hs : P.underlying src = some (.slice e)) (he : P.underlying e = some (.int .u8)) (hd : P.underlying dt = some .string) (hr : Rd w b o n .u8 d) :
    (execOp ρ ⟨dst, .convert src dt x, ty, pos, af, gd⟩).run P w = .ok (.value (.string (bs d n))) w := by
  have hs' := fun w => run_under (w := w) hs
  have he' := fun w => run_under (w := w) he
  have hd' := fun w => run_under (w := w) hd
  have hl : (loadCells ⟨b, o, none⟩ n).run P w = .ok (((List.range n).map d).map (Value.int .u8)).toArray w := by
    rw [run_loadRd hr, List.map_map]; rfl
  have := run_bytesToString w ⟨b, o, none⟩ n c _ hl
  rw [bs_foldl] at this
  simp [execOp, hx, convert, hs', hd', he', this]
theorem r_b2s0 {src dt : TypeId} {n c : Nat} (hx : ρ x = .slice none n c) (hs : P.underlying src = some (.slice e)) (he : P.underlying e = some (.int .u8)) (hd : P.underlying dt = some .string) :
    (execOp ρ ⟨dst, .convert src dt x, ty, pos, af, gd⟩).run P w = .ok (.value (.string (bs (fun _ => 0) 0))) w := by
  have hs' := fun w => run_under (w := w) hs
  have he' := fun w => run_under (w := w) he
  have hd' := fun w => run_under (w := w) hd
  have hb : bs (fun _ => 0) 0 = ByteArray.empty := rfl
  simp [execOp, hx, convert, hs', hd', he', Conv.bytesToString, hb]
theorem r_lenS {ts : TypeId} {s : ByteArray} (hx : ρ x = .string s) (hs : P.underlying ts = some .string) :
    (execOp ρ ⟨dst, .call ⟨.builtin .len, #[x], #[ts]⟩, ty, pos, af, gd⟩).run P w = .ok (.value (.int .i64 (s.size : Int))) w := by
  have hs' := fun w => run_under (w := w) hs
  simp [execOp, resolve, invoke, builtin, Builtin.len_, hx, hs', goInt]
theorem r_lenL {ts es : TypeId} {a : Option Addr} {n c : Nat} (hx : ρ x = .slice a n c) (hs : P.underlying ts = some (.slice es)) :
    (execOp ρ ⟨dst, .call ⟨.builtin .len, #[x], #[ts]⟩, ty, pos, af, gd⟩).run P w = .ok (.value (.int .i64 (n : Int))) w := by
  have hs' := fun w => run_under (w := w) hs
  simp [execOp, resolve, invoke, builtin, Builtin.len_, hx, hs', goInt]
/-- A copy out of a string. -/
theorem r_copyS {ts t2 : TypeId} {g o dl dc n m : Nat} {d : Nat → Int} {c : Nat → Value} {te : TypeId} {q : Nat} (hx : ρ x = .slice (some ⟨g, o, none⟩) dl dc) (hy : ρ y = .string (bs d n)) (ht : SlcAt P ts 1) (hm : Nat.min n dl = m) (hB : Blk w g q c te) (ho : o + m ≤ q) :
    (execOp ρ ⟨dst, .call ⟨.builtin .copy, #[x, y], #[ts, t2]⟩, ty, pos, af, gd⟩).run P w = .ok (.value (.int .i64 (m : Int))) (putC w g o m fun i => .int .u8 (c8 (d i))) := by
  obtain ⟨e, hs, hz⟩ := ht
  have hs' := fun w => run_under (w := w) hs
  have hz' := fun w => run_sizeOf (w := w) hz
  have hmn : m ≤ n := by rw [← hm]; exact Nat.min_le_left _ _
  have hst := run_storeCells_cells (P := P) g o (Array.ofFn (n := m) fun i => Value.int .u8 (c8 (d i.val))).toList 0 w (fun j hj => by
      have hj' : j < m := by simpa using hj
      rw [Nat.add_zero, hB.cell (by omega)]; rfl) (fun j _ => hB.frozen _) (fun v hv => by
      rw [Array.mem_toList_iff, Array.mem_ofFn] at hv
      obtain ⟨i, rfl⟩ := hv
      rfl)
  simp only [Nat.add_zero] at hst
  have hfc : (Builtin.firstCells 1 m (.string (bs d n))).run P w = .ok (Array.ofFn (n := m) fun i => Value.int .u8 (c8 (d i.val))) w := by
    simp only [Builtin.firstCells]
    rw [bs_bytes d n hmn]; rfl
  unfold putC
  generalize (Array.ofFn (n := m) fun i => Value.int .u8 (c8 (d i.val))) = A at hfc hst ⊢
  simp [execOp, resolve, invoke, builtin, Builtin.copy_, hx, hy, hs', hz', Builtin.lenOf, bs_size, hm, hfc, hst, goInt]
/-- A copy out of a slice. -/
theorem r_copyL {ts t2 : TypeId} {g o dl dc b so sl sc m : Nat} {f : Nat → Value} {c : Nat → Value} {te : TypeId} {q : Nat} (hx : ρ x = .slice (some ⟨g, o, none⟩) dl dc) (hy : ρ y = .slice (some ⟨b, so, none⟩) sl sc) (ht : SlcAt P ts 1) (hm : Nat.min sl dl = m) (hB : Blk w g q c te) (ho : o + m ≤ q)
    (hr : ∀ i, i < m → w.cell? ⟨b, so + i, none⟩ = some (f i)) (h1 : ∀ i, i < m → (f i).oneCell' = true) :
    (execOp ρ ⟨dst, .call ⟨.builtin .copy, #[x, y], #[ts, t2]⟩, ty, pos, af, gd⟩).run P w = .ok (.value (.int .i64 (m : Int))) (putC w g o m f) := by
  obtain ⟨e, hs, hz⟩ := ht
  have hs' := fun w => run_under (w := w) hs
  have hz' := fun w => run_sizeOf (w := w) hz
  have hst := run_storeCells_cells (P := P) g o (Array.ofFn (n := m) fun i => f i.val).toList 0 w (fun j hj => by
      have hj' : j < m := by simpa using hj
      rw [Nat.add_zero, hB.cell (by omega)]; rfl) (fun j _ => hB.frozen _) (fun v hv => by
      rw [Array.mem_toList_iff, Array.mem_ofFn] at hv
      obtain ⟨i, rfl⟩ := hv
      exact h1 _ i.isLt)
  simp only [Nat.add_zero] at hst
  have hfc := run_firstCells_some (P := P) w 1 m ⟨b, so, none⟩ sl sc (Array.ofFn (n := m) fun i => f i.val).toList (by simp) (fun j v hv => by
    have hj : j < m := by
      rcases Nat.lt_or_ge j m with h' | h'
      · exact h'
      · simp [h'] at hv
    rw [addr_off, hr j hj]
    simpa [hj] using hv)
  rw [Array.toArray_toList] at hfc
  unfold putC
  generalize (Array.ofFn (n := m) fun i => f i.val) = A at hfc hst ⊢
  simp [execOp, resolve, invoke, builtin, Builtin.copy_, hx, hy, hs', hz', Builtin.lenOf, hm, hfc, hst, goInt]
/-- A part of a string, from a place on. -/
theorem r_strL {ts : TypeId} {lo : Operand} {kd : IntKind} {d : Nat → Int} {n l : Nat} (hx : ρ x = .string (bs d n)) (hl : ρ lo = .int kd ((l : Nat) : Int)) (hs : P.underlying ts = some .string) (h : l ≤ n) :
    (execOp ρ ⟨dst, .slice ts x (some lo) none none, ty, pos, af, gd⟩).run P w = .ok (.value (.string (bs (fun i => d (l + i)) (n - l)))) w := by
  have hs' := fun w => run_under (w := w) hs
  have b2 := fun w code => run_sliceBound (P := P) (w := w) (kd := kd) (i := ((l : Nat) : Int)) (y := n) (code := code) (by omega) (by omega)
  have he := bs_extract d n h (Nat.le_refl n)
  simp only [Int.toNat_natCast] at b2
  simp [execOp, Instr.sliceAt, hs', hx, hl, Instr.slice, Instr.sliceBounds, bs_size, b2, he]
/-- A string compared with itself. -/
theorem r_strEq {ta tb : TypeId} {s : ByteArray} (hx : ρ x = .string s) (hy : ρ y = .string s) :
    (execOp ρ ⟨dst, .binOp .eql ta x y tb, ty, pos, af, gd⟩).run P w = .ok (.value (.bool true)) w := by
  simp only [execOp, hx, hy]; simp [eqGuard, binOp, Op.stringOp]
end
end Go.Proofs.YtfaopfaghnefdaaDoor
