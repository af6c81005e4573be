/- Proved: the tied card of FnSizes: whatever the bytes, a sum has 32 bytes as the package tells, and a block 64, and the argument reads behind the call as before. Conditions: none beside what the card itself states (both tables as the program text lays them). -/
import Derived.Test.YtfaopfaghnefdaaDoorKit
import Derived.Test.YtfaopfaghnefdaaDoorSiz
namespace Go.Proofs.YtfaopfaghnefdaaDoor.fnSizes
open Go Go.ChangeShapes Go.WideShapes Go.ChangeAt Go.RowKit
/-- What the walk gives, for every argument and every world that holds the tables. -/
theorem contract (H : Type) (enc : TypeId × Value → H) (W : World) (base : Nat) (args : Array Value) (ds gs : List (DataW H)) (before : List MemPlace)
    (hval : ∀ (j : Nat) t v, Tryd.f4.params[j]? = some t → args[j]? = some v → Value.okWide Tryd.prog W .any base t v)
    (hW : DataW.Whole enc Tryd.prog Tryd.f4.params.toList Rows.fnSizesSpec.vars false W args.toList ds gs before) (hL : laidMetH Tryd.prog Rows.fnSizesRow.laid W) :
    Calls Tryd.prog 4 args W fun e W' => ∃ v, e = .returned v ∧ Rows.fnSizesSpec.post enc Tryd.prog Tryd.f4 false true false false W args v W' := by
  have hW' := hW
  have hlt := hW.lt
  obtain ⟨p, q, hA0, hV, rfl, _, _⟩ := hW
  have hA : DataW.TrodAll enc Tryd.prog W 0 (fun _ => true) true Tryd.f4.params.toList args.toList ds p := hA0
  have hA1 := hA
  rw [Tryd.params4] at hA hval
  obtain ⟨v0, vs0, d0, ds0, p0, q0, hargs, rfl, rfl, h0, r0⟩ := trodAll_cons hA
  obtain ⟨rfl, rfl, rfl⟩ := trodAll_nil r0
  obtain ⟨g, t, cs, fuel, dg, pg, rfl, _⟩ := trodVars_one hV
  obtain rfl : args = #[v0] := by cases args; simp_all
  obtain ⟨m, x, hx⟩ := bytes_of (hval 0 22 v0 rfl rfl) h0
  obtain ⟨hg, hT⟩ := tables hL
  refine (sizesfn_any m v0 ivF tbF x W hg hT hx).mono fun e W' ⟨he, hM⟩ => ?_
  have hb := below_of hM
  refine ⟨_, he, _, _, _, [], _, _, hW', trodAll_cons_mk (shut_bool Tryd.underlying4 _) trodAll_mk0, trodAll_below laidOut hb _ _ _ _ ?_ (fun y hy => hlt y (List.mem_append_left _ hy)) hA1,
    vars_below hb (fun y hy => hlt y (List.mem_append_right _ hy)) hV, hb.frame _, fun h => by cases h⟩
  intro t ht
  rw [Tryd.params4] at ht
  have h22 : t = 22 := by simpa using ht
  subst h22
  exact read22
theorem laid_met (os : Os) : laidMet Tryd.prog Rows.fnSizesRow.laid ((laidWorld os).forCall (fun _ _ => 0) ⟨#[], #[.slice none 0 0], []⟩).memory :=
  laidMet_of_run' 8 (by kernel_rfl) (by kernel_rfl)
theorem reads (os : Os) {H : Type} (enc : TypeId × Value → H) : ∃ places, DataW.whole enc Tryd.prog ((laidWorld os).forCall (fun _ _ => 0) ⟨#[], #[.slice none 0 0], []⟩).memory Tryd.f4.params.toList Rows.fnSizesSpec.vars false #[Value.slice none 0 0].toList 8 =
    some ([.nil], [Rows.laid_loop_example_pub_g03056_pub_blake3_inner_consts_IV], places) :=
  ⟨MemPlace.row ⟨0, 0, none⟩ 8, by kernel_rfl⟩
set_option maxRecDepth 100000 in
theorem lifted (os : Os) (started : os.Started) (H : Type) (enc : TypeId × Value → H) (F : Stop.Interp) :
    ReturnsInHanded {} Tryd.checked os 4 .any ((OpenSpec.ofChange Rows.fnSizesSpec).preRow enc Tryd.prog Tryd.f4 Rows.fnSizesRow.domain false Rows.fnSizesRow.laid) (((OpenSpec.ofChange Rows.fnSizesSpec).at F).post enc Tryd.prog Tryd.f4 false true false false) := by
  obtain ⟨places, hx⟩ := reads os enc
  refine returnsInHanded_of_row (C := Tryd.checked) (s := OpenSpec.ofChange Rows.fnSizesSpec) own started (by kernel_rfl) Tryd.func4
    (witness_row_at (enc := enc) (C := Tryd.checked) false (laidWorld os) #[.slice none 0 0] rfl (by kernel_rfl) (by kernel_rfl) (by kernel_rfl)
      (OpenSpec.preRow_of_cond 8 hx (by kernel_rfl) (fun k hk => by cases hk) (by kernel_rfl) (laid_met os))) ?_
  intro W base args ds gs before hval hW _ _ _ hL _ _
  exact contract H enc W base args ds gs before hval hW hL
theorem said : Rows.FnSizesSaid :=
  OpenClaim.holds_of_cond 4 Tryd.f4 rfl rfl rfl rfl rfl rfl rfl ⟨rfl, rfl, rfl, rfl, rfl⟩ rfl rfl rfl rfl rfl (by kernel_rfl) Tryd.func4 (by kernel_rfl)
    (of_decide_eq_true (by kernel_rfl)) (by unfold Func.isWrapper; first | (rw [if_pos (by decide +kernel)]; kernel_rfl) | (rw [if_neg (by decide +kernel)]; exact ⟨rfl, rfl⟩))
    (fun os started H enc _ F => by rw [OpenClaim.pre_eq_preRow]; exact lifted os started H enc F)
theorem plain (f : FuncId) (fn : Func) (hf : Tryd.pinned.checked.prog.funcNamed "loop.example/pub-g03056/laws.FnSizes" = some f) (hfn : Tryd.pinned.checked.prog.funcs[f]? = some fn) :
    false = Tryd.pinned.checked.prog.looks [] ∧ ∀ (j : Nat) t, fn.params[j]? = some t → Tryd.pinned.checked.prog.wantsStandIn t = false := by
  obtain rfl : f = 4 := Option.some.inj ((show Tryd.prog.funcNamed "loop.example/pub-g03056/laws.FnSizes" = some 4 by kernel_rfl).symm.trans hf) |>.symm
  obtain rfl : fn = Tryd.f4 := (Option.some.inj (Tryd.func4.symm.trans hfn)).symm
  refine ⟨by kernel_rfl, fun j t ht => ?_⟩
  rw [Tryd.params4] at ht
  obtain rfl : t = 22 := by simpa using Array.mem_of_getElem? ht
  exact (show Tryd.prog.wantsStandIn 22 = false by kernel_rfl)
theorem card : Rows.FnSizesCardSaid :=
  Claim7.holds_tied_plain_at .later [] _ _ _ _ said (fun _ h => by cases h) (by kernel_rfl) (fun _ h => by cases h) fnSizes_row_tie rfl ⟨rfl, rfl⟩ (by kernel_rfl) rfl plain (by kernel_rfl)
end Go.Proofs.YtfaopfaghnefdaaDoor.fnSizes
