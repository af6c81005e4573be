/- readChain, writeChain, copyChain: a column of eight words read, written, copied. Conditions: the ranges are there and do not meet. -/
import Derived.Test.YtfaopfaghnefdaaDoorTy
namespace Go.Proofs.YtfaopfaghnefdaaDoor
open Go
theorem mul8 {k : Nat} (h : k < 8) : IntKind.i64.wrap (8 * (k : Int)) = ((8 * k : Nat) : Int) := by rw [wrap_i64 (by omega) (by omega)]; omega
theorem mul8c {k col : Nat} (h : k < 8) (hc : col < 8) : IntKind.i64.wrap (((8 * k : Nat) : Int) + (col : Int)) = ((8 * k + col : Nat) : Int) := by rw [wrap_i64 (by omega) (by omega)]; omega
theorem succ_i64 {k : Nat} (h : k < 9223372036854775807) : IntKind.i64.wrap ((k : Int) + 1) = ((k + 1 : Nat) : Int) := by rw [wrap_i64 (by omega) (by omega)]; omega
theorem rdch_any (ib io ob oo nb col : Nat) (c : Nat → Value) (te : TypeId) (x : Nat → Int) (w : World) (hx : Rd w ib io 64 .u32 x) (hB : Blk w ob nb c te) (ho : oo + 8 ≤ nb) (hcol : col < 8) (hd : Apart ib io 64 ob oo 8) :
    Calls Tryd.prog 41 #[.pointer (some ⟨ib, io, none⟩), .int .i64 ((col : Nat) : Int), .pointer (some ⟨ob, oo, none⟩)] w fun e w' => e = .returned (.tuple #[]) ∧ Mod [ob] w w' ∧ Blk w' ob nb (put c oo 8 (fun k => .int .u32 (x (8 * k + col)))) te := by
  refine calls_of_CW (l := [_, _, _]) (N := 23) Tryd.func41 rfl rfl rfl ?_
  refine CW.seq (CW.region (LW.val rfl rfl r_move (LW.nil ?_)))
  refine CW.block (CW.loop (fun n E w' => ∃ (k : Nat) (J : Env), k + n = 8 ∧ E = tab (α := Value) J [(0, .pointer (some ⟨ib, io, none⟩)), (1, .int .i64 ((col : Nat) : Int)), (2, .pointer (some ⟨ob, oo, none⟩)), (7, .int .i64 ((k : Nat) : Int))] ∧ Mod [ob] w w' ∧ Blk w' ob nb (put c oo k (fun k => .int .u32 (x (8 * k + col)))) te ∧ Rd w' ib io 64 .u32 x) 8 ?_ ?_)
  · exact ⟨0, _, rfl, (tab_of_agrees (α := Value) _ [(0, .pointer (some ⟨ib, io, none⟩)), (1, .int .i64 ((col : Nat) : Int)), (2, .pointer (some ⟨ob, oo, none⟩)), (7, .int .i64 ((0 : Nat) : Int))] ⟨rfl, rfl, rfl, rfl, trivial⟩).symm, Mod.refl _ _, by rw [put_zero]; exact hB, hx⟩
  · rintro n E w' ⟨k, J, hk, rfl, hM, hB', hx'⟩
    by_cases hlt : k < 8
    · refine CW.seq (CW.region (LW.val rfl rfl (r_lssE rfl rfl (q := true) (decide_eq_true (by omega))) (LW.nil ?_)))
      refine CW.seq (CW.cond_t rfl (CW.skip ?_))
      refine CW.seq (CW.block (CW.seq (CW.region ?_)))
      refine LW.val rfl rfl (r_move) ?_
      refine LW.val rfl rfl (r_assign) ?_
      refine LW.nil (CW.drawn (fun w => Rd w ib io 64 .u32 x) [(0, true), (1, true), (2, true), (3, true), (4, true), (5, true), (6, true), (7, true), (8, true), (9, true), (10, true), (11, true), (12, false)] mixed (by kernel_rfl) (by kernel_rfl) ?_)
      have hS : (fun w => Rd w ib io 64 .u32 x) w'.drew := hx'
      refine OW.val hS rfl rfl rfl (fun _ _ => r_move) ?_
      refine OW.val hS rfl rfl rfl (fun _ _ => r_move) ?_
      refine OW.val hS rfl rfl rfl (fun _ _ => r_move) ?_
      refine OW.val hS rfl rfl rfl (fun _ _ => r_move) ?_
      refine OW.val hS rfl rfl rfl (fun _ _ => r_mulE rfl rfl (mul8 hlt)) ?_
      refine OW.val hS rfl rfl rfl (fun _ _ => r_move) ?_
      refine OW.val hS rfl rfl rfl (fun _ _ => r_addE rfl rfl (mul8c hlt hcol)) ?_
      refine OW.val hS rfl rfl rfl (fun _ _ => r_nil rfl) ?_
      refine OW.val hS rfl rfl rfl (fun _ _ => r_ix rfl rfl arr47 (by omega)) ?_
      refine OW.val hS rfl rfl rfl (fun _ hS => r_load rfl one43 (hS _ (by omega))) ?_
      refine OW.val hS rfl rfl rfl (fun _ _ => r_nil rfl) ?_
      refine OW.val hS rfl rfl rfl (fun _ _ => r_ix rfl rfl arr44 hlt) ?_
      have hS' : Rd (w'.drew.setCell ⟨ob, oo + k, none⟩ (.int .u32 (x (8 * k + col)))) ib io 64 .u32 x := Rd.set hx' (hd.set (by omega) (by omega))
      refine OW.eff rfl rfl rfl (r_storeB rfl rfl one43 rfl hB'.drew (by omega)) hS' ?_
      refine OW.nil (CW.region (LW.val rfl rfl (r_addE rfl rfl (succ_i64 (by omega))) (LW.val rfl rfl r_move (LW.nil ?_))))
      exact ⟨n - 1, by omega, k + 1, _, by omega, (tab_of_agrees (α := Value) _ [(0, .pointer (some ⟨ib, io, none⟩)), (1, .int .i64 ((col : Nat) : Int)), (2, .pointer (some ⟨ob, oo, none⟩)), (7, .int .i64 (((k + 1) : Nat) : Int))] ⟨rfl, rfl, rfl, rfl, trivial⟩).symm, (hM.trans (Mod.drew [] _) (by simp)).trans (Mod.set _ ob _ _) (by simp), (congrArg (fun c => Blk _ ob nb c te) (put_snoc c oo k (fun k => .int .u32 (x (8 * k + col))) (.int .u32 (x (8 * k + col))) rfl)).mp (hB'.drew.set (i := oo + k) (.int .u32 (x (8 * k + col))) (by omega)), hS'⟩
    · have hk8 : k = 8 := by omega
      subst hk8
      refine CW.seq (CW.region (LW.val rfl rfl (r_lssE rfl rfl (q := false) (decide_eq_false (by omega))) (LW.nil ?_)))
      refine CW.seq (CW.cond_f rfl (CW.exit (Or.inl ⟨rfl, ?_⟩)))
      exact ⟨_, RetV.none rfl, rfl, hM, hB'⟩
theorem wrch_any (ib io ob oo nb col : Nat) (c : Nat → Value) (te : TypeId) (x : Nat → Int) (w : World) (hx : Rd w ib io 8 .u32 x) (hB : Blk w ob nb c te) (ho : oo + 64 ≤ nb) (hcol : col < 8) (hd : Apart ib io 8 ob oo 64) :
    Calls Tryd.prog 42 #[.pointer (some ⟨ib, io, none⟩), .pointer (some ⟨ob, oo, none⟩), .int .i64 ((col : Nat) : Int)] w fun e w' => e = .returned (.tuple #[]) ∧ Mod [ob] w w' ∧ Blk w' ob nb (stw c oo col 8 (fun k => .int .u32 (x k))) te := by
  refine calls_of_CW (l := [_, _, _]) (N := 23) Tryd.func42 rfl rfl rfl ?_
  refine CW.seq (CW.region (LW.val rfl rfl r_move (LW.nil ?_)))
  refine CW.block (CW.loop (fun n E w' => ∃ (k : Nat) (J : Env), k + n = 8 ∧ E = tab (α := Value) J [(0, .pointer (some ⟨ib, io, none⟩)), (1, .pointer (some ⟨ob, oo, none⟩)), (2, .int .i64 ((col : Nat) : Int)), (7, .int .i64 ((k : Nat) : Int))] ∧ Mod [ob] w w' ∧ Blk w' ob nb (stw c oo col k (fun k => .int .u32 (x k))) te ∧ Rd w' ib io 8 .u32 x) 8 ?_ ?_)
  · exact ⟨0, _, rfl, (tab_of_agrees (α := Value) _ [(0, .pointer (some ⟨ib, io, none⟩)), (1, .pointer (some ⟨ob, oo, none⟩)), (2, .int .i64 ((col : Nat) : Int)), (7, .int .i64 ((0 : Nat) : Int))] ⟨rfl, rfl, rfl, rfl, trivial⟩).symm, Mod.refl _ _, by rw [stw_zero]; exact hB, hx⟩
  · rintro n E w' ⟨k, J, hk, rfl, hM, hB', hx'⟩
    by_cases hlt : k < 8
    · refine CW.seq (CW.region (LW.val rfl rfl (r_lssE rfl rfl (q := true) (decide_eq_true (by omega))) (LW.nil ?_)))
      refine CW.seq (CW.cond_t rfl (CW.skip ?_))
      refine CW.seq (CW.block (CW.seq (CW.region ?_)))
      refine LW.val rfl rfl (r_move) ?_
      refine LW.val rfl rfl (r_assign) ?_
      refine LW.nil (CW.drawn (fun w => Rd w ib io 8 .u32 x) [(0, true), (1, true), (2, true), (3, true), (4, true), (5, true), (6, true), (7, true), (8, true), (9, true), (10, true), (11, true), (12, false)] mixed (by kernel_rfl) (by kernel_rfl) ?_)
      have hS : (fun w => Rd w ib io 8 .u32 x) w'.drew := hx'
      refine OW.val hS rfl rfl rfl (fun _ _ => r_move) ?_
      refine OW.val hS rfl rfl rfl (fun _ _ => r_move) ?_
      refine OW.val hS rfl rfl rfl (fun _ _ => r_mulE rfl rfl (mul8 hlt)) ?_
      refine OW.val hS rfl rfl rfl (fun _ _ => r_move) ?_
      refine OW.val hS rfl rfl rfl (fun _ _ => r_addE rfl rfl (mul8c hlt hcol)) ?_
      refine OW.val hS rfl rfl rfl (fun _ _ => r_move) ?_
      refine OW.val hS rfl rfl rfl (fun _ _ => r_move) ?_
      refine OW.val hS rfl rfl rfl (fun _ _ => r_nil rfl) ?_
      refine OW.val hS rfl rfl rfl (fun _ _ => r_ix rfl rfl arr44 hlt) ?_
      refine OW.val hS rfl rfl rfl (fun _ hS => r_load rfl one43 (hS _ hlt)) ?_
      refine OW.val hS rfl rfl rfl (fun _ _ => r_nil rfl) ?_
      refine OW.val hS rfl rfl rfl (fun _ _ => r_ix rfl rfl arr47 (by omega)) ?_
      have hS' : Rd (w'.drew.setCell ⟨ob, oo + (8 * k + col), none⟩ (.int .u32 (x k))) ib io 8 .u32 x := Rd.set hx' (hd.set (by omega) (by omega))
      refine OW.eff rfl rfl rfl (r_storeB rfl rfl one43 rfl hB'.drew (by omega)) hS' ?_
      refine OW.nil (CW.region (LW.val rfl rfl (r_addE rfl rfl (succ_i64 (by omega))) (LW.val rfl rfl r_move (LW.nil ?_))))
      exact ⟨n - 1, by omega, k + 1, _, by omega, (tab_of_agrees (α := Value) _ [(0, .pointer (some ⟨ib, io, none⟩)), (1, .pointer (some ⟨ob, oo, none⟩)), (2, .int .i64 ((col : Nat) : Int)), (7, .int .i64 (((k + 1) : Nat) : Int))] ⟨rfl, rfl, rfl, rfl, trivial⟩).symm, (hM.trans (Mod.drew [] _) (by simp)).trans (Mod.set _ ob _ _) (by simp), (congrArg (fun c => Blk _ ob nb c te) (stw_snoc c oo col k (fun k => .int .u32 (x k)) (.int .u32 (x k)) rfl)).mp (hB'.drew.set (i := oo + (8 * k + col)) (.int .u32 (x k)) (by omega)), hS'⟩
    · have hk8 : k = 8 := by omega
      subst hk8
      refine CW.seq (CW.region (LW.val rfl rfl (r_lssE rfl rfl (q := false) (decide_eq_false (by omega))) (LW.nil ?_)))
      refine CW.seq (CW.cond_f rfl (CW.exit (Or.inl ⟨rfl, ?_⟩)))
      exact ⟨_, RetV.none rfl, rfl, hM, hB'⟩
theorem cpch_any (ib io ob oo nb icol col : Nat) (c : Nat → Value) (te : TypeId) (x : Nat → Int) (w : World) (hx : Rd w ib io 64 .u32 x) (hB : Blk w ob nb c te) (ho : oo + 64 ≤ nb) (hicol : icol < 8) (hcol : col < 8) (hd : Apart ib io 64 ob oo 64) :
    Calls Tryd.prog 43 #[.pointer (some ⟨ib, io, none⟩), .int .i64 ((icol : Nat) : Int), .pointer (some ⟨ob, oo, none⟩), .int .i64 ((col : Nat) : Int)] w fun e w' => e = .returned (.tuple #[]) ∧ Mod [ob] w w' ∧ Blk w' ob nb (stw c oo col 8 (fun k => .int .u32 (x (8 * k + icol)))) te := by
  refine calls_of_CW (l := [_, _, _, _]) (N := 28) Tryd.func43 rfl rfl rfl ?_
  refine CW.seq (CW.region (LW.val rfl rfl r_move (LW.nil ?_)))
  refine CW.block (CW.loop (fun n E w' => ∃ (k : Nat) (J : Env), k + n = 8 ∧ E = tab (α := Value) J [(0, .pointer (some ⟨ib, io, none⟩)), (1, .int .i64 ((icol : Nat) : Int)), (2, .pointer (some ⟨ob, oo, none⟩)), (3, .int .i64 ((col : Nat) : Int)), (9, .int .i64 ((k : Nat) : Int))] ∧ Mod [ob] w w' ∧ Blk w' ob nb (stw c oo col k (fun k => .int .u32 (x (8 * k + icol)))) te ∧ Rd w' ib io 64 .u32 x) 8 ?_ ?_)
  · exact ⟨0, _, rfl, (tab_of_agrees (α := Value) _ [(0, .pointer (some ⟨ib, io, none⟩)), (1, .int .i64 ((icol : Nat) : Int)), (2, .pointer (some ⟨ob, oo, none⟩)), (3, .int .i64 ((col : Nat) : Int)), (9, .int .i64 ((0 : Nat) : Int))] ⟨rfl, rfl, rfl, rfl, rfl, trivial⟩).symm, Mod.refl _ _, by rw [stw_zero]; exact hB, hx⟩
  · rintro n E w' ⟨k, J, hk, rfl, hM, hB', hx'⟩
    by_cases hlt : k < 8
    · refine CW.seq (CW.region (LW.val rfl rfl (r_lssE rfl rfl (q := true) (decide_eq_true (by omega))) (LW.nil ?_)))
      refine CW.seq (CW.cond_t rfl (CW.skip ?_))
      refine CW.seq (CW.block (CW.seq (CW.region ?_)))
      refine LW.val rfl rfl (r_move) ?_
      refine LW.val rfl rfl (r_assign) ?_
      refine LW.nil (CW.drawn (fun w => Rd w ib io 64 .u32 x) [(0, true), (1, true), (2, true), (3, true), (4, true), (5, true), (6, true), (7, true), (8, true), (9, true), (10, true), (11, true), (12, true), (13, true), (14, true), (15, false)] mixed (by kernel_rfl) (by kernel_rfl) ?_)
      have hS : (fun w => Rd w ib io 64 .u32 x) w'.drew := hx'
      refine OW.val hS rfl rfl rfl (fun _ _ => r_move) ?_
      refine OW.val hS rfl rfl rfl (fun _ _ => r_move) ?_
      refine OW.val hS rfl rfl rfl (fun _ _ => r_mulE rfl rfl (mul8 hlt)) ?_
      refine OW.val hS rfl rfl rfl (fun _ _ => r_move) ?_
      refine OW.val hS rfl rfl rfl (fun _ _ => r_addE rfl rfl (mul8c hlt hcol)) ?_
      refine OW.val hS rfl rfl rfl (fun _ _ => r_move) ?_
      refine OW.val hS rfl rfl rfl (fun _ _ => r_move) ?_
      refine OW.val hS rfl rfl rfl (fun _ _ => r_mulE rfl rfl (mul8 hlt)) ?_
      refine OW.val hS rfl rfl rfl (fun _ _ => r_move) ?_
      refine OW.val hS rfl rfl rfl (fun _ _ => r_addE rfl rfl (mul8c hlt hicol)) ?_
      refine OW.val hS rfl rfl rfl (fun _ _ => r_nil rfl) ?_
      refine OW.val hS rfl rfl rfl (fun _ _ => r_ix rfl rfl arr47 (by omega)) ?_
      refine OW.val hS rfl rfl rfl (fun _ hS => r_load rfl one43 (hS _ (by omega))) ?_
      refine OW.val hS rfl rfl rfl (fun _ _ => r_nil rfl) ?_
      refine OW.val hS rfl rfl rfl (fun _ _ => r_ix rfl rfl arr47 (by omega)) ?_
      have hS' : Rd (w'.drew.setCell ⟨ob, oo + (8 * k + col), none⟩ (.int .u32 (x (8 * k + icol)))) ib io 64 .u32 x := Rd.set hx' (hd.set (by omega) (by omega))
      refine OW.eff rfl rfl rfl (r_storeB rfl rfl one43 rfl hB'.drew (by omega)) hS' ?_
      refine OW.nil (CW.region (LW.val rfl rfl (r_addE rfl rfl (succ_i64 (by omega))) (LW.val rfl rfl r_move (LW.nil ?_))))
      exact ⟨n - 1, by omega, k + 1, _, by omega, (tab_of_agrees (α := Value) _ [(0, .pointer (some ⟨ib, io, none⟩)), (1, .int .i64 ((icol : Nat) : Int)), (2, .pointer (some ⟨ob, oo, none⟩)), (3, .int .i64 ((col : Nat) : Int)), (9, .int .i64 (((k + 1) : Nat) : Int))] ⟨rfl, rfl, rfl, rfl, rfl, trivial⟩).symm, (hM.trans (Mod.drew [] _) (by simp)).trans (Mod.set _ ob _ _) (by simp), (congrArg (fun c => Blk _ ob nb c te) (stw_snoc c oo col k (fun k => .int .u32 (x (8 * k + icol))) (.int .u32 (x (8 * k + icol))) rfl)).mp (hB'.drew.set (i := oo + (8 * k + col)) (.int .u32 (x (8 * k + icol))) (by omega)), hS'⟩
    · have hk8 : k = 8 := by omega
      subst hk8
      refine CW.seq (CW.region (LW.val rfl rfl (r_lssE rfl rfl (q := false) (decide_eq_false (by omega))) (LW.nil ?_)))
      refine CW.seq (CW.cond_f rfl (CW.exit (Or.inl ⟨rfl, ?_⟩)))
      exact ⟨_, RetV.none rfl, rfl, hM, hB'⟩
end Go.Proofs.YtfaopfaghnefdaaDoor
