/- What both rows ask beside the walk: the two tables off the row's list, the bytes off the argument's reading, what is left alone behind the call. Conditions: those of a row. -/
import Derived.Test.YtfaopfaghnefdaaDoorPre
import Derived.Test.YtfaopfaghnefdaaDoorCards
import Derived.Test.YtfaopfaghnefdaaDoorTie
import Derived.WalkKit
import Derived.ProofKit
import Derived.OpenShut
import Derived.Carry
import Derived.ChangeOld
import Derived.Deep.DeepHandedRow
import Derived.Lib.LaidTab
namespace Go.Proofs.YtfaopfaghnefdaaDoor
open Go Go.ChangeShapes Go.WideShapes Go.ChangeAt Go.RowKit
theorem own : ownKnob Tryd.prog.godebug = none := by kernel_rfl
theorem gIV : Tryd.prog.globalNamed "loop.example/pub-g03056/pub/blake3/inner/consts.IV" = some 0 := by kernel_rfl
theorem gTb : Tryd.prog.globalNamed "math/bits.deBruijn64tab" = some 1 := by kernel_rfl
theorem gIVt : (Tryd.prog.globals[0]?).map (·.type) = some 44 := by kernel_rfl
theorem gTbt : (Tryd.prog.globals[1]?).map (·.type) = some 72 := by kernel_rfl
theorem cells44 : Tryd.prog.cellsOf 44 = 8 := by kernel_rfl
theorem cells43 : Tryd.prog.cellsOf 43 = 1 := by kernel_rfl
theorem cells72 : Tryd.prog.cellsOf 72 = 64 := by kernel_rfl
theorem cells5' : Tryd.prog.cellsOf 5 = 1 := by kernel_rfl
def ivL : List Int := [1779033703, 3144134277, 1013904242, 2773480762, 1359893119, 2600822924, 528734635, 1541459225]
def tbL : List Int := [0, 1, 56, 2, 57, 49, 28, 3, 61, 58, 42, 50, 38, 29, 17, 4, 62, 47, 59, 36, 45, 43, 51, 22, 53, 39, 33, 30, 24, 18, 12, 5, 63, 55, 48, 27, 60, 41, 37, 16, 46, 35, 44, 21, 52, 32, 23, 11, 54, 26, 40, 15, 34, 20, 31, 10, 25, 14, 19, 9, 13, 8, 7, 6]
theorem tab_of {P : Program} {W : World} {name : String} {k : IntKind} {zs : List Int} {rest : List (String × DataW Unit)} {g : Nat} {t e : TypeId} {n : Nat} {ps : List MemPlace}
    (hg : P.globalNamed name = some g) (hty : (P.globals[g]?).map (·.type) = some t) (ht : P.underlying t = some (.array n e)) (he : P.underlying e = some (.int k)) (hce : P.cellsOf e = 1) (hct : P.cellsOf t = n)
    (h : DataW.LaidVars P W ((name, Lib.tabData k zs) :: rest) ps) : Lib.TabIs P W name k zs ∧ ∃ q, DataW.LaidVars P W rest q := by
  obtain ⟨g', t', cs, fuel, p, q, hg', ht', hvar, hd, hr, _⟩ := h
  cases Option.some.inj (hg.symm.trans hg')
  cases Option.some.inj (hty.symm.trans ht')
  refine ⟨?_, q, hr⟩
  unfold Lib.TabIs
  rw [hvar, ← Lib.cells_of_tab ht he hce hct hd]
def ivF (i : Nat) : Int := ivL.getD i 0
def tbF (i : Nat) : Int := tbL.getD i 0
theorem tables {W : World} (h : laidMetH Tryd.prog Rows.fnPrefixRow.laid W) : Rd W 0 0 8 .u32 ivF ∧ Rd W 1 0 64 .u8 tbF := by
  have h' : laidMet Tryd.prog [("loop.example/pub-g03056/pub/blake3/inner/consts.IV", Lib.tabData .u32 ivL), ("math/bits.deBruijn64tab", Lib.tabData .u8 tbL)] W := h
  obtain ⟨ps, hl, _⟩ := h'
  obtain ⟨h1, q, hl2⟩ := tab_of gIV gIVt Tryd.underlying44 Tryd.underlying43 cells43 cells44 hl
  obtain ⟨h2, _, _⟩ := tab_of gTb gTbt Tryd.underlying72 Tryd.underlying5 cells5' cells72 hl2
  exact ⟨fun i hi => by rw [Nat.zero_add]; exact h1.cell gIV i hi, fun i hi => by rw [Nat.zero_add]; exact h2.cell gTb i hi⟩
theorem below_of {w w' : World} (h : Mod [] w w') : Below w.heap.size w w' := ⟨h.os, h.tape, h.output, h.size, fun k hk => h.same k hk (by simp)⟩
/-- The bytes of an argument. -/
theorem bytes_of {H : Type} {enc : TypeId × Value → H} {W : World} {v : Value} {d : DataW H} {p : List MemPlace} {r : Reach} {b0 : Nat} (hval : Value.okWide Tryd.prog W r b0 22 v) (h : DataW.Trod enc Tryd.prog W 0 (fun _ => true) true 22 v d p) :
    ∃ (m : Nat) (x : Nat → Int), SlA W v m x := by
  obtain ⟨a, len, cap, rfl⟩ := okWide_slice Tryd.underlying22 hval
  obtain ⟨fuel, hf⟩ := h
  rcases open_ints Tryd.underlying22 Tryd.underlying5 cells5' hf with ⟨hcs, _⟩ | ⟨a', len', cap', zs, hcs, _, hl, _, hz, _, hcell, _⟩
  · simp [Value.cells] at hcs
    obtain ⟨rfl, rfl, rfl⟩ := hcs
    exact ⟨0, fun _ => 0, Or.inl (Or.inl ⟨0, rfl, rfl⟩)⟩
  · simp [Value.cells] at hcs
    obtain ⟨rfl, rfl, rfl⟩ := hcs
    simp only [if_true] at hz
    by_cases h0 : len = 0
    · subst h0
      exact ⟨0, fun _ => 0, Or.inr ⟨_, _, rfl, rfl⟩⟩
    · have hc0 := hcell 0 (by omega)
      have hsp := World.cell?_spot hc0
      obtain ⟨b, o, sp⟩ := a'
      have hs : sp = none := by simpa [Addr.add] using hsp
      subst hs
      exact ⟨len, fun i => zs.getD i 0, Or.inl (Or.inr ⟨b, o, cap, rfl, fun i hi => by
        have := hcell i (by omega)
        rwa [addr_off] at this⟩)⟩
theorem trodAll_below {H : Type} {enc : TypeId × Value → H} {P : Program} (hl : laidOutB P = true) {W W' : World} (hb : Below W.heap.size W W') :
    ∀ (ts : List TypeId) (vs : List Value) (ds : List (DataW H)) (ps : List MemPlace), (∀ t, t ∈ ts → P.readableRec t = true ∧ t < P.types.size) → (∀ x, x ∈ ps → x.block < W.heap.size) →
      DataW.TrodAll enc P W 0 (fun _ => true) true ts vs ds ps → DataW.TrodAll enc P W' 0 (fun b => decide (b < W.heap.size)) true ts vs ds ps
  | [], [], [], _, _, _, h => h
  | t :: ts, v :: vs, d :: ds, ps, ht, hp, ⟨p, q, h1, h2, e⟩ => by
    subst e
    exact ⟨p, q, Below.trod hl (ht t (by simp)).1 (ht t (by simp)).2 h1 hb (fun x hx => hp x (by simp [hx])), trodAll_below hl hb ts vs ds q (fun t' h' => ht t' (by simp [h'])) (fun x hx => hp x (by simp [hx])) h2, rfl⟩
  | [], [], _ :: _, _, _, _, h => h.elim
  | [], _ :: _, _, _, _, _, h => h.elim
  | _ :: _, [], _, _, _, _, h => h.elim
  | _ :: _, _ :: _, [], _, _, _, h => h.elim
theorem laidOut : laidOutB Tryd.prog = true := by kernel_rfl
theorem read22 : Tryd.prog.readableRec 22 = true ∧ 22 < Tryd.prog.types.size := ⟨by kernel_rfl, of_decide_eq_true (by kernel_rfl)⟩
theorem read3 : Tryd.prog.readableRec 3 = true ∧ 3 < Tryd.prog.types.size := ⟨by kernel_rfl, of_decide_eq_true (by kernel_rfl)⟩
theorem read44 : Tryd.prog.readableRec 44 = true ∧ 44 < Tryd.prog.types.size := ⟨by kernel_rfl, of_decide_eq_true (by kernel_rfl)⟩
open Go.WideElems in
/-- The one variable that the rows name reads behind the call as before. -/
theorem vars_below {H : Type} {enc : TypeId × Value → H} {W W' : World} (hb : Below W.heap.size W W') {gs : List (DataW H)} {ps : List MemPlace} (hp : ∀ x, x ∈ ps → x.block < W.heap.size)
    (h : DataW.TrodVars enc Tryd.prog W (fun _ => true) ["loop.example/pub-g03056/pub/blake3/inner/consts.IV"] gs ps) : DataW.TrodVars enc Tryd.prog W' (fun b => decide (b < W.heap.size)) ["loop.example/pub-g03056/pub/blake3/inner/consts.IV"] gs ps := by
  obtain ⟨g, t, cs, fuel, d, p, rfl, h1, h2, h3, h4, rfl⟩ := trodVars_one h
  cases Option.some.inj (gIV.symm.trans h1)
  cases Option.some.inj (gIVt.symm.trans h2)
  have h3' : W'.var? Tryd.prog "loop.example/pub-g03056/pub/blake3/inner/consts.IV" = some cs := by
    unfold World.var? at h3 ⊢
    rw [gIV] at h3 ⊢
    simp only [Option.bind_some] at h3 ⊢
    have hg : 0 < W.heap.size := by
      cases hh : W.heap[0]? with
      | none => rw [hh] at h3; cases h3
      | some o => exact (Array.getElem?_eq_some_iff.1 hh).1
    rw [hb.block 0 hg]; exact h3
  exact trodVars_mk1 h1 h2 h3' (DataW.trod_stays (kids_book laidOut read44.1) (book_sized read44.1) (fun h => by cases h) ⟨read44.2, book_self 44⟩ h4 (fun x hx => hb.same (hp x (by simp [hx]))) (fun x hx => by simpa using hp x (by simp [hx])))
def relay (c : Array Value) : Obj → Obj
  | .cells _ t frozen => .cells c t frozen
  | o => o
/-- A world for the witness: the settled one, both tables as their initialisers lay them. -/
noncomputable def laidWorld (os : Os) : World :=
  { World.holding Tryd.prog os ⟨#[], #[], []⟩ with heap := ((World.holding Tryd.prog os ⟨#[], #[], []⟩).heap.modify 0 (relay (ivL.map fun z => Value.int .u32 z).toArray)).modify 1 (relay (tbL.map fun z => Value.int .u8 z).toArray) }
end Go.Proofs.YtfaopfaghnefdaaDoor
