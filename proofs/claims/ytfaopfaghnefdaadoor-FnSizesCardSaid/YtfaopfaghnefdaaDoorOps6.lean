/- Structs put together part by part, a slice against nil, a slice literal, a slice made, append onto nothing. Conditions: those of each operation. -/
import Derived.Test.YtfaopfaghnefdaaDoorFin
import Derived.Great.BuildSlice
import Derived.Laws.MakeOwn
namespace Go.Proofs.YtfaopfaghnefdaaDoor
open Go
section
variable {P : Program} {ρ : Operand → Value} {w : World} {dst : Option Tmp} {ty : TypeId} {pos : String} {af : Array Edge} {gd : Option (Nat × Bool)} {x y : Operand} {t e : TypeId}
theorem r_buildL {l : List (Nat × Operand)} {cells : Array Value} (h : P.built t (l.map fun x => (x.1, ρ x.2)) = some cells) :
    (execOp ρ ⟨dst, .build t l.toArray, ty, pos, af, gd⟩).run P w = .ok (.value (.agg cells)) w := by
  refine r_buildS ?_
  rw [List.map_toArray]
  exact h
theorem r_slcNil {a : Option Addr} {n c n2 c2 : Nat} {t2 : TypeId} (hx : ρ x = .slice a n c) (hy : ρ y = .slice none n2 c2) (ht : P.underlying t = some (.slice e)) :
    (execOp ρ ⟨dst, .binOp .eql t x y t2, ty, pos, af, gd⟩).run P w = .ok (.value (.bool a.isNone)) w := by
  have ht' := fun w => run_under (w := w) ht
  have he : ∀ w, (Op.equal t (.slice a n c) (.slice none n2 c2)).run P w = .ok a.isNone w := fun w => by
    obtain ⟨k, hk⟩ : ∃ k, Op.maxDepth = k + 1 := ⟨_, rfl⟩
    rw [Op.equal, hk]
    unfold Op.equalIn
    rw [Sem.run_bind, ht']
    cases a <;> rfl
  have hb : (binOp .eql t (.slice a n c) (.slice none n2 c2)) = (do pure (.bool (← Op.equal t (.slice a n c) (.slice none n2 c2)))) := rfl
  simp only [execOp, hx, hy]
  rw [hb]
  simp [eqGuard, he]
end
section
variable {P : Program} {ρ : Operand → Value} {w : World} {dst : Option Tmp} {ty : TypeId} {pos : String} {af : Array Edge} {gd : Option (Nat × Bool)} {x y : Operand} {t e : TypeId}
/-- An empty slice literal. -/
theorem r_bs0 {P : Program} {w : World} {t es : Nat} (ht : SlcAt P t es) : ∃ e, ∀ (ρ : Operand → Value) dst ty pos af gd, (execOp ρ ⟨dst, .buildSlice t 0 #[], ty, pos, af, gd⟩).run P w = .ok (.value (.slice (some ⟨w.heap.size, 0, none⟩) 0 0)) (w.alloc (.cells #[] e)) := by
  obtain ⟨e, hu, hs⟩ := ht
  refine ⟨e, fun ρ dst ty pos af gd => ?_⟩
  have hu' := fun w => run_under (w := w) hu
  have hs' := fun w => run_sizeOf (w := w) hs
  have h0 : (Array.range 0) = (#[] : Array Nat) := by apply Array.eq_empty_of_size_eq_zero; simp
  simp [execOp, Instr.buildSlice, hu', hs', Instr.fill, newRow, h0]
/-- A slice literal of one part of one cell. -/
theorem r_bs1 {v : Value} {i : TypeInfo} {z : Value} (hx : ρ x = v) (hv : v.oneCell' = true) (hu : P.underlying t = some (.slice e)) (hi : P.info? e = some i) (hz : i.zero = some z) (h1 : i.size = 1) :
    (execOp ρ ⟨dst, .buildSlice t 1 [(0, x)].toArray, ty, pos, af, gd⟩).run P w = .ok (.value (.slice (some ⟨w.heap.size, 0, none⟩) 1 1)) (w.alloc (.cells (Array.ofFn (n := 1) fun i => (fun _ => v) i.val) e)) := by
  have hcs : v.cells = #[v] := by cases v <;> simp_all [Value.cells, Value.oneCell']
  have hr := run_buildSlice (P := P) w t e 1 #[(0, v)] (Array.ofFn (n := 1) fun i => (fun _ => v) i.val) i z hu hi hz (by rw [h1]; decide) (by rw [h1]; decide) (by
    simp only [Instr.fill, h1, hcs]
    simp
    apply Array.ext
    · simp
    · intro j hj1 hj2
      have hj : j = 0 := by simp at hj2; omega
      subst hj
      simp)
  simp only [execOp, hx, List.map_toArray, List.map_cons, List.map_nil, Sem.run_bind, hr, Result.andThen_ok, Sem.run_pure]
/-- A slice made full, its elements of one cell each. -/
theorem r_make {kl : IntKind} {n : Nat} {i : TypeInfo} {z u : Value} (hx : ρ x = .int kl ((n : Nat) : Int)) (hu : P.underlying t = some (.slice e)) (hi : P.info? e = some i) (hz : i.zero = some z) (h1 : i.size = 1) (hb : i.bytes = 1) (hzc : z.cells = #[u]) (hn : n ≤ 16777216) :
    (execOp ρ ⟨dst, .makeSlice t x x, ty, pos, af, gd⟩).run P w = .ok (.value (.slice (some ⟨w.heap.size, 0, none⟩) n n)) (w.alloc (.cells (Array.ofFn (n := n) fun i => (fun _ => u) i.val) e)) := by
  have hr := run_makeSlice (P := P) w t e i z hu hi hz kl kl (n : Int) (n : Int) (by omega) (by omega) (by rw [h1]; omega) (by rw [hb]; omega) (by omega)
  have hm : madeCells z.cells ((n : Int).toNat * i.size) = Array.ofFn (n := n) fun i => (fun _ => u) i.val := by
    rw [h1, hzc]
    apply Array.ext
    · simp [madeCells]
    · intro j hj1 hj2
      simp [madeCells, Nat.mod_one]
  rw [hm] at hr
  simp only [execOp, hx, Sem.run_bind, hr, Result.andThen_ok, Sem.run_pure, Int.toNat_natCast]
theorem rd_alloc (w : World) (e : TypeId) (n : Nat) (d : Nat → Int) (rest : Array Value) : Rd (w.alloc (.cells (((List.range n).map fun i => Value.int .u8 (d i)).toArray ++ rest) e)) w.heap.size 0 n .u8 d := fun i hi => by
  have hsz : (w.alloc (.cells (((List.range n).map fun i => Value.int .u8 (d i)).toArray ++ rest) e)).heap[w.heap.size]? = some (.cells (((List.range n).map fun i => Value.int .u8 (d i)).toArray ++ rest) e (0, 0)) := by
    show (w.heap.push _)[w.heap.size]? = _
    simp
  simp only [World.cell?, hsz, Nat.zero_add]
  rw [Array.getElem?_append_left (by simpa using hi)]
  simp [hi]
end
/-- Bytes laid behind nothing. -/
theorem r_app0 {P : Program} {w : World} {t e : TypeId} (ao : Option Addr) {b o n c : Nat} {d : Nat → Int} {i : TypeInfo} {z : Value} (h0 : 0 < n) (hn : n ≤ 2147483648) (hu : P.underlying t = some (.slice e)) (hi : P.info? e = some i) (hz : i.zero = some z) (h1 : i.size = 1) (hb : i.bytes = 1) (hd : Rd w b o n .u8 d) :
    ∃ cap w', (∀ (ρ : Operand → Value) (x y : Operand) dst ty pos af gd, ρ x = .slice ao 0 0 → ρ y = .slice (some ⟨b, o, none⟩) n c → (execOp ρ ⟨dst, .call ⟨.builtin .append, #[x, y], #[t, t]⟩, ty, pos, af, gd⟩).run P w = .ok (.value (.slice (some ⟨w.heap.size, 0, none⟩) n cap)) w') ∧ Mod [] w w' ∧ Rd w' w.heap.size 0 n .u8 d := by
  have hnews : ∀ j v, ((List.range n).map fun i => Value.int .u8 (d i))[j]? = some v → w.cell? ((⟨b, o, none⟩ : Addr).add j) = some v := fun j v hv => by
    have hj : j < n := by
      rcases Nat.lt_or_ge j n with h' | h'
      · exact h'
      · simp [h'] at hv
    rw [addr_off, hd j hj]
    simpa [hj] using hv
  have hfit : Builtin.nextslicecap n 0 * i.bytes ≤ 281474976710656 := growslice_fits h0 (by rw [hb]; omega)
  have hr : ∃ rest, ∀ ty, (Builtin.append_ #[t, t] ty #[.slice ao 0 0, .slice (some ⟨b, o, none⟩) n c]).run P w = .ok (.slice (some ⟨w.heap.size, 0, none⟩) n (grownCap w n 0 e)) (w.drew.alloc (.cells (((List.range n).map fun i => Value.int .u8 (d i)).toArray ++ rest) e)) := by
    cases ao with
    | none => exact ⟨_, fun ty => run_append_nil (P := P) w t ty e i z hu hi hz ⟨b, o, none⟩ n c ((List.range n).map fun i => Value.int .u8 (d i)) (by simp [h1]) hnews h0 (by omega) (by rw [hb]; omega)⟩
    | some a =>
      refine ⟨Builtin.zeroCells z.cells (grownCap w n 0 e - n), fun ty => ?_⟩
      have := run_append_grow (P := P) w t ty e i z hu hi hz a 0 0 [] (by simp) (by simp) ⟨b, o, none⟩ n c ((List.range n).map fun i => Value.int .u8 (d i)) (by simp [h1]) hnews (by omega) (by omega) (by rw [Nat.zero_add]; exact hfit)
      rw [Nat.zero_add] at this
      simpa using this
  obtain ⟨rest, hr⟩ := hr
  refine ⟨grownCap w n 0 e, _, fun ρ x y dst ty pos af gd hx hy => ?_, (Mod.drew [] w).none (Mod.alloc _ _), rd_alloc w.drew e n d rest⟩
  simp [execOp, resolve, invoke, builtin, hx, hy, hr]
section
variable {P : Program} {ρ : Operand → Value} {w : World} {dst : Option Tmp} {ty : TypeId} {pos : String} {af : Array Edge} {gd : Option (Nat × Bool)} {x y : Operand} {t : TypeId}
/-- An empty slice laid behind nothing. -/
theorem r_app00 {ao : Option Addr} {a2 : Option Addr} {c : Nat} {es : Nat} (hx : ρ x = .slice ao 0 0) (hy : ρ y = .slice a2 0 c) (ht : SlcAt P t es) :
    (execOp ρ ⟨dst, .call ⟨.builtin .append, #[x, y], #[t, t]⟩, ty, pos, af, gd⟩).run P w = .ok (.value (.slice ao 0 0)) w := by
  obtain ⟨e, hu, hs⟩ := ht
  have hu' := fun w => run_under (w := w) hu
  have hs' := fun w => run_sizeOf (w := w) hs
  cases a2 <;> cases ao <;> simp [execOp, resolve, invoke, builtin, hx, hy, Builtin.append_, hu', hs', Builtin.lenOf, Builtin.firstCells, loadCells, loadCellsFrom, storeCells]
end
end Go.Proofs.YtfaopfaghnefdaaDoor
