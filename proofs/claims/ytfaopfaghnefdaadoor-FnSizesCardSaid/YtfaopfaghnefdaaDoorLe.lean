/- le32 and putLE32: four bytes and a word. Conditions: the four cells are there. -/
import Derived.Test.YtfaopfaghnefdaaDoorOps
import Derived.Test.YtfaopfaghnefdaaDoorProg
namespace Go.Proofs.YtfaopfaghnefdaaDoor
open Go
theorem sz5 : SizeIs Tryd.prog 5 1 := (by kernel_rfl : (Tryd.prog.info? 5).map (·.size) = some 1)
theorem slc22 : SlcAt Tryd.prog 22 1 := ⟨5, Tryd.underlying22, sz5⟩
theorem one5 : OneC Tryd.prog 5 := ⟨_, Tryd.underlying5, rfl, sz5⟩
theorem int5 : IntT Tryd.prog 5 .u8 := Tryd.underlying5
theorem int43 : IntT Tryd.prog 43 .u32 := Tryd.underlying43
theorem mixed : Tryd.prog.follows .mixedOrders = true := by kernel_rfl
/-- Every operation in the order of the text, each pure. -/
def lexOrd (n : Nat) : List (Nat × Bool) := (List.range n).map fun i => (i, true)
def le4 (x0 x1 x2 x3 : Int) : Int :=
  bw .or .u32 (bw .or .u32 (bw .or .u32 (IntKind.u32.wrap x0) (IntKind.u32.wrap (IntKind.u32.wrap x1 * 2 ^ 8))) (IntKind.u32.wrap (IntKind.u32.wrap x2 * 2 ^ 16))) (IntKind.u32.wrap (IntKind.u32.wrap x3 * 2 ^ 24))
theorem le32_any (b o n c : Nat) (x : Nat → Int) (w : World) (hn : 4 ≤ n) (hc : ∀ i, i < 4 → w.cell? ⟨b, o + i, none⟩ = some (.int .u8 (x i))) :
    Calls Tryd.prog 36 #[.slice (some ⟨b, o, none⟩) n c] w fun e w' => e = .returned (.int .u32 (le4 (x 0) (x 1) (x 2) (x 3))) ∧ w' = w.drew := by
  refine calls_of_CW (l := [_]) (N := 25) Tryd.func36 rfl rfl rfl ?_
  refine CW.seq (CW.region (LW.val rfl rfl r_assign (LW.nil ?_)))
  refine CW.seq (CW.drawn (fun w => ∀ i, i < 4 → w.cell? ⟨b, o + i, none⟩ = some (.int .u8 (x i))) [(0, true), (1, true), (2, true), (3, true), (4, true), (5, true), (6, true), (7, true), (8, true), (9, true), (10, true), (11, true), (12, true), (13, true), (14, true), (15, true), (16, true), (17, true), (18, true), (19, true), (20, true), (21, true), (22, true)] mixed (by kernel_rfl) (by kernel_rfl) ?_)
  have hS : (fun w : World => ∀ i, i < 4 → w.cell? ⟨b, o + i, none⟩ = some (.int .u8 (x i))) w.drew := hc
  refine OW.val hS rfl rfl rfl (fun _ _ => r_move) ?_
  refine OW.val hS rfl rfl rfl (fun _ _ => r_index_slc rfl rfl slc22 (by decide) (by omega)) ?_
  refine OW.val hS rfl rfl rfl (fun _ hS => r_load rfl one5 (hS 0 (by decide))) ?_
  refine OW.val hS rfl rfl rfl (fun _ _ => r_conv int5 int43 rfl) ?_
  refine OW.val hS rfl rfl rfl (fun _ _ => r_move) ?_
  refine OW.val hS rfl rfl rfl (fun _ _ => r_index_slc rfl rfl slc22 (by decide) (by omega)) ?_
  refine OW.val hS rfl rfl rfl (fun _ hS => r_load rfl one5 (hS 1 (by decide))) ?_
  refine OW.val hS rfl rfl rfl (fun _ _ => r_conv int5 int43 rfl) ?_
  refine OW.val hS rfl rfl rfl (fun _ _ => r_shl rfl rfl (by decide)) ?_
  refine OW.val hS rfl rfl rfl (fun _ _ => r_or rfl rfl) ?_
  refine OW.val hS rfl rfl rfl (fun _ _ => r_move) ?_
  refine OW.val hS rfl rfl rfl (fun _ _ => r_index_slc rfl rfl slc22 (by decide) (by omega)) ?_
  refine OW.val hS rfl rfl rfl (fun _ hS => r_load rfl one5 (hS 2 (by decide))) ?_
  refine OW.val hS rfl rfl rfl (fun _ _ => r_conv int5 int43 rfl) ?_
  refine OW.val hS rfl rfl rfl (fun _ _ => r_shl rfl rfl (by decide)) ?_
  refine OW.val hS rfl rfl rfl (fun _ _ => r_or rfl rfl) ?_
  refine OW.val hS rfl rfl rfl (fun _ _ => r_move) ?_
  refine OW.val hS rfl rfl rfl (fun _ _ => r_index_slc rfl rfl slc22 (by decide) (by omega)) ?_
  refine OW.val hS rfl rfl rfl (fun _ hS => r_load rfl one5 (hS 3 (by decide))) ?_
  refine OW.val hS rfl rfl rfl (fun _ _ => r_conv int5 int43 rfl) ?_
  refine OW.val hS rfl rfl rfl (fun _ _ => r_shl rfl rfl (by decide)) ?_
  refine OW.val hS rfl rfl rfl (fun _ _ => r_or rfl rfl) ?_
  refine OW.val hS rfl rfl rfl (fun _ _ => r_assign) ?_
  refine OW.nil (CW.ret ⟨_, RetV.one rfl rfl, ?_, rfl⟩)
  rfl
end Go.Proofs.YtfaopfaghnefdaaDoor
