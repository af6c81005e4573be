/- Compress, and the two functions that hand on to it. Conditions: chain and block are there, apart from where the answer goes. -/
import Derived.Test.YtfaopfaghnefdaaDoorRc
import Derived.Test.YtfaopfaghnefdaaDoorTy
namespace Go.Proofs.YtfaopfaghnefdaaDoor
open Go
theorem en47 : Enters Tryd.prog 47 := ⟨_, Tryd.func47, by kernel_rfl, rfl⟩
theorem en45 : Enters Tryd.prog 45 := ⟨_, Tryd.func45, by kernel_rfl, rfl⟩
theorem en38 : Enters Tryd.prog 38 := ⟨_, Tryd.func38, by kernel_rfl, rfl⟩
theorem en31 : Enters Tryd.prog 31 := ⟨_, Tryd.func31, by kernel_rfl, rfl⟩
/-- The sixteen words with which a compression begins. -/
def initS (ch : Nat → Int) (ctr blen flags : Int) : Nat → Int
  | 0 => ch 0
  | 1 => ch 1
  | 2 => ch 2
  | 3 => ch 3
  | 4 => ch 4
  | 5 => ch 5
  | 6 => ch 6
  | 7 => ch 7
  | 8 => 1779033703
  | 9 => 3144134277
  | 10 => 1013904242
  | 11 => 2773480762
  | 12 => IntKind.u32.wrap ctr
  | 13 => IntKind.u32.wrap (ctr.fdiv (2 ^ 32))
  | 14 => blen
  | _ => flags
def compF (ch bl : Nat → Int) (ctr blen flags : Int) : Nat → Int := rcF (initS ch ctr blen flags) bl
set_option maxHeartbeats 2000000 in
theorem comp_any (cb co bb bo ob oo n : Nat) (c : Nat → Value) (te : TypeId) (ch bl : Nat → Int) (ctr blen flags : Int) (w : World) (hc : Rd w cb co 8 .u32 ch) (hb : Rd w bb bo 16 .u32 bl) (hB : Blk w ob n c te) (ho : oo + 16 ≤ n)
    (h1 : Apart cb co 8 ob oo 16) (h2 : Apart bb bo 16 ob oo 16) :
    Calls Tryd.prog 45 #[.pointer (some ⟨cb, co, none⟩), .pointer (some ⟨bb, bo, none⟩), .int .u64 ctr, .int .u32 blen, .int .u32 flags, .pointer (some ⟨ob, oo, none⟩)] w fun e w' =>
      e = .returned (.tuple #[]) ∧ Mod [ob] w w' ∧ Blk w' ob n (put c oo 16 (fun i => .int .u32 (compF ch bl ctr blen flags i))) te := by
  refine calls_of_CW (l := [_, _, _, _, _, _]) (N := 57) Tryd.func45 rfl rfl rfl ?_
  refine CW.seq (CW.drawn (fun w => Rd w cb co 8 .u32 ch) [(0, true), (1, true), (2, true), (3, true), (4, true), (5, true), (6, true), (7, true), (8, true), (9, true), (10, true), (11, true), (12, true), (13, true), (14, true), (15, true), (16, true), (17, true), (18, true), (19, true), (20, true), (21, true), (22, true), (23, true), (24, true), (25, true), (26, true), (27, true), (28, true), (29, true), (30, true), (31, true), (32, true), (33, true), (34, true), (35, true), (36, true), (37, true), (38, true), (39, true), (40, true), (41, true), (42, false)] mixed (by kernel_rfl) (by kernel_rfl) ?_)
  have hS := hc.drew
  refine OW.val hS rfl rfl rfl (fun _ _ => r_move) ?_
  refine OW.val hS rfl rfl rfl (fun _ _ => r_move) ?_
  refine OW.val hS rfl rfl rfl (fun _ _ => r_nil rfl) ?_
  refine OW.val hS rfl rfl rfl (fun _ _ => r_index_arr rfl rfl arr44 (by decide) (by decide)) ?_
  refine OW.val hS rfl rfl rfl (fun _ hS => r_load rfl one43 (hS 0 (by decide))) ?_
  refine OW.val hS rfl rfl rfl (fun _ _ => r_move) ?_
  refine OW.val hS rfl rfl rfl (fun _ _ => r_nil rfl) ?_
  refine OW.val hS rfl rfl rfl (fun _ _ => r_index_arr rfl rfl arr44 (by decide) (by decide)) ?_
  refine OW.val hS rfl rfl rfl (fun _ hS => r_load rfl one43 (hS 1 (by decide))) ?_
  refine OW.val hS rfl rfl rfl (fun _ _ => r_move) ?_
  refine OW.val hS rfl rfl rfl (fun _ _ => r_nil rfl) ?_
  refine OW.val hS rfl rfl rfl (fun _ _ => r_index_arr rfl rfl arr44 (by decide) (by decide)) ?_
  refine OW.val hS rfl rfl rfl (fun _ hS => r_load rfl one43 (hS 2 (by decide))) ?_
  refine OW.val hS rfl rfl rfl (fun _ _ => r_move) ?_
  refine OW.val hS rfl rfl rfl (fun _ _ => r_nil rfl) ?_
  refine OW.val hS rfl rfl rfl (fun _ _ => r_index_arr rfl rfl arr44 (by decide) (by decide)) ?_
  refine OW.val hS rfl rfl rfl (fun _ hS => r_load rfl one43 (hS 3 (by decide))) ?_
  refine OW.val hS rfl rfl rfl (fun _ _ => r_move) ?_
  refine OW.val hS rfl rfl rfl (fun _ _ => r_nil rfl) ?_
  refine OW.val hS rfl rfl rfl (fun _ _ => r_index_arr rfl rfl arr44 (by decide) (by decide)) ?_
  refine OW.val hS rfl rfl rfl (fun _ hS => r_load rfl one43 (hS 4 (by decide))) ?_
  refine OW.val hS rfl rfl rfl (fun _ _ => r_move) ?_
  refine OW.val hS rfl rfl rfl (fun _ _ => r_nil rfl) ?_
  refine OW.val hS rfl rfl rfl (fun _ _ => r_index_arr rfl rfl arr44 (by decide) (by decide)) ?_
  refine OW.val hS rfl rfl rfl (fun _ hS => r_load rfl one43 (hS 5 (by decide))) ?_
  refine OW.val hS rfl rfl rfl (fun _ _ => r_move) ?_
  refine OW.val hS rfl rfl rfl (fun _ _ => r_nil rfl) ?_
  refine OW.val hS rfl rfl rfl (fun _ _ => r_index_arr rfl rfl arr44 (by decide) (by decide)) ?_
  refine OW.val hS rfl rfl rfl (fun _ hS => r_load rfl one43 (hS 6 (by decide))) ?_
  refine OW.val hS rfl rfl rfl (fun _ _ => r_move) ?_
  refine OW.val hS rfl rfl rfl (fun _ _ => r_nil rfl) ?_
  refine OW.val hS rfl rfl rfl (fun _ _ => r_index_arr rfl rfl arr44 (by decide) (by decide)) ?_
  refine OW.val hS rfl rfl rfl (fun _ hS => r_load rfl one43 (hS 7 (by decide))) ?_
  refine OW.val hS rfl rfl rfl (fun _ _ => r_move) ?_
  refine OW.val hS rfl rfl rfl (fun _ _ => r_conv int45 int43 rfl) ?_
  refine OW.val hS rfl rfl rfl (fun _ _ => r_move) ?_
  refine OW.val hS rfl rfl rfl (fun _ _ => r_shr rfl rfl (by decide)) ?_
  refine OW.val hS rfl rfl rfl (fun _ _ => r_conv int45 int43 rfl) ?_
  refine OW.val hS rfl rfl rfl (fun _ _ => r_move) ?_
  refine OW.val hS rfl rfl rfl (fun _ _ => r_move) ?_
  refine OW.val hS rfl rfl rfl (fun _ _ => r_buildA (l := [.tmp 16, .tmp 20, .tmp 24, .tmp 28, .tmp 32, .tmp 36, .tmp 40, .tmp 44, .const (.int .u32 1779033703), .const (.int .u32 3144134277), .const (.int .u32 1013904242), .const (.int .u32 2773480762), .tmp 46, .tmp 49, .tmp 50, .tmp 51]) zero57 (aggF_size _ _) Tryd.underlying57 sz43 rfl rfl (f := fun i => .int .u32 (initS ch ctr blen flags i)) (fun i hi => match i, hi with | 0, _ => rfl | 1, _ => rfl | 2, _ => rfl | 3, _ => rfl | 4, _ => rfl | 5, _ => rfl | 6, _ => rfl | 7, _ => rfl | 8, _ => rfl | 9, _ => rfl | 10, _ => rfl | 11, _ => rfl | 12, _ => rfl | 13, _ => rfl | 14, _ => rfl | 15, _ => rfl | _ + 16, h => absurd h (by omega))) ?_
  refine OW.val hS rfl rfl rfl (fun _ _ => r_nil rfl) ?_
  refine OW.eff rfl rfl rfl (r_storeA (m := 16) (f := fun i => .int .u32 (initS ch ctr blen flags i)) rfl rfl agg57 (fun _ _ => rfl) hB.drew ho) (hS.putC h1) ?_
  refine OW.nil (CW.region ?_)
  refine LW.val rfl rfl (r_move) ?_
  refine LW.val rfl rfl (r_move) ?_
  refine LW.call rfl rfl (e_call en47) ?_
  have hB2 := hB.drew.putC (f := fun i => .int .u32 (initS ch ctr blen flags i)) ho
  refine (rc_any ob oo bb bo n _ te (initS ch ctr blen flags) bl _ (hB2.rd ho (fun i hi => put_at _ _ hi)) (hb.drew.putC h2) hB2 ho).mono ?_
  rintro e w' ⟨rfl, hM, hB'⟩
  refine ⟨_, rfl, ?_⟩
  rw [put_put] at hB'
  exact LW.nil ⟨_, RetV.none rfl, rfl, (((Mod.drew [ob] w).trans (Mod.putC _ ob _ _ _) (by simp)).trans hM (by simp)), hB'⟩
theorem comp38_any (cb co bb bo ob oo n : Nat) (c : Nat → Value) (te : TypeId) (ch bl : Nat → Int) (ctr blen flags : Int) (w : World) (hc : Rd w cb co 8 .u32 ch) (hb : Rd w bb bo 16 .u32 bl) (hB : Blk w ob n c te) (ho : oo + 16 ≤ n)
    (h1 : Apart cb co 8 ob oo 16) (h2 : Apart bb bo 16 ob oo 16) :
    Calls Tryd.prog 38 #[.pointer (some ⟨cb, co, none⟩), .pointer (some ⟨bb, bo, none⟩), .int .u64 ctr, .int .u32 blen, .int .u32 flags, .pointer (some ⟨ob, oo, none⟩)] w fun e w' =>
      e = .returned (.tuple #[]) ∧ Mod [ob] w w' ∧ Blk w' ob n (put c oo 16 (fun i => .int .u32 (compF ch bl ctr blen flags i))) te := by
  refine calls_of_CW (l := [_, _, _, _, _, _]) (N := 19) Tryd.func38 rfl rfl rfl ?_
  refine CW.region ?_
  refine LW.val rfl rfl (r_move) ?_
  refine LW.val rfl rfl (r_move) ?_
  refine LW.val rfl rfl (r_move) ?_
  refine LW.val rfl rfl (r_move) ?_
  refine LW.val rfl rfl (r_move) ?_
  refine LW.val rfl rfl (r_move) ?_
  refine LW.call rfl rfl (e_call en45) ?_
  refine (comp_any cb co bb bo ob oo n c te ch bl ctr blen flags w hc hb hB ho h1 h2).mono ?_
  rintro e w' ⟨rfl, hM, hB'⟩
  refine ⟨_, rfl, ?_⟩
  exact LW.nil ⟨_, RetV.none rfl, rfl, hM, hB'⟩
theorem comp31_any (cb co bb bo ob oo n : Nat) (c : Nat → Value) (te : TypeId) (ch bl : Nat → Int) (ctr blen flags : Int) (w : World) (hc : Rd w cb co 8 .u32 ch) (hb : Rd w bb bo 16 .u32 bl) (hB : Blk w ob n c te) (ho : oo + 16 ≤ n)
    (h1 : Apart cb co 8 ob oo 16) (h2 : Apart bb bo 16 ob oo 16) :
    Calls Tryd.prog 31 #[.pointer (some ⟨cb, co, none⟩), .pointer (some ⟨bb, bo, none⟩), .int .u64 ctr, .int .u32 blen, .int .u32 flags, .pointer (some ⟨ob, oo, none⟩)] w fun e w' =>
      e = .returned (.tuple #[]) ∧ Mod [ob] w w' ∧ Blk w' ob n (put c oo 16 (fun i => .int .u32 (compF ch bl ctr blen flags i))) te := by
  refine calls_of_CW (l := [_, _, _, _, _, _]) (N := 19) Tryd.func31 rfl rfl rfl ?_
  refine CW.region ?_
  refine LW.val rfl rfl (r_move) ?_
  refine LW.val rfl rfl (r_move) ?_
  refine LW.val rfl rfl (r_move) ?_
  refine LW.val rfl rfl (r_move) ?_
  refine LW.val rfl rfl (r_move) ?_
  refine LW.val rfl rfl (r_move) ?_
  refine LW.call rfl rfl (e_call en38) ?_
  refine (comp38_any cb co bb bo ob oo n c te ch bl ctr blen flags w hc hb hB ho h1 h2).mono ?_
  rintro e w' ⟨rfl, hM, hB'⟩
  refine ⟨_, rfl, ?_⟩
  exact LW.nil ⟨_, RetV.none rfl, rfl, hM, hB'⟩
end Go.Proofs.YtfaopfaghnefdaaDoor
