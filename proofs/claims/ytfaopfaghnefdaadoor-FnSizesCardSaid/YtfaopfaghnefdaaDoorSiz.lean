/- FnSizes answers true: a sum of 32 bytes, a block of 64. Conditions: the two tables lie where the program says; the slice of bytes is there. -/
import Derived.Test.YtfaopfaghnefdaaDoorPre
namespace Go.Proofs.YtfaopfaghnefdaaDoor
open Go
theorem en20 : Enters Tryd.prog 20 := ⟨_, Tryd.func20, by kernel_rfl, rfl⟩
theorem en16 : Enters Tryd.prog 16 := ⟨_, Tryd.func16, by kernel_rfl, rfl⟩
theorem en8 : Enters Tryd.prog 8 := ⟨_, Tryd.func8, by kernel_rfl, rfl⟩
theorem en7 : Enters Tryd.prog 7 := ⟨_, Tryd.func7, by kernel_rfl, rfl⟩
theorem en13 : Enters Tryd.prog 13 := ⟨_, Tryd.func13, by kernel_rfl, rfl⟩
theorem en14 : Enters Tryd.prog 14 := ⟨_, Tryd.func14, by kernel_rfl, rfl⟩
theorem r_capL {P : Program} {ρ : Operand → Value} {w : World} {dst : Option Tmp} {ty : TypeId} {pos : String} {af : Array Edge} {gd : Option (Nat × Bool)} {x : Operand} {ts es : TypeId} {a : Option Addr} {n c : Nat} (hx : ρ x = .slice a n c) (hs : P.underlying ts = some (.slice es)) :
    (execOp ρ ⟨dst, .call ⟨.builtin .cap, #[x], #[ts]⟩, ty, pos, af, gd⟩).run P w = .ok (.value (.int .i64 (c : Int))) w := by
  have hs' := fun w => run_under (w := w) hs
  simp [execOp, resolve, invoke, builtin, Builtin.cap_, hx, hs', goInt]
theorem finalize_any (hb pb m nb : Nat) (g T d : Nat → Int) (w : World) (hB : Blk w hb 8854 (hF g d m) 56) (hT : Rd w 1 0 64 .u8 T) (h1 : hb ≠ 1) (hm : m ≤ 32768) (c : Nat → Value) (te : TypeId) (hP : Blk w pb nb c te) (hn : 32 ≤ nb) (hne : pb ≠ hb) :
    Calls Tryd.prog 20 #[.pointer (some ⟨hb, 1, none⟩), .slice (some ⟨pb, 0, none⟩) 32 32] w fun e w' => e = .returned (.tuple #[]) ∧ Mod [hb, pb] w w' ∧ Blk w' pb nb (put c 0 32 (rdF (dF g T d m))) te := by
  refine calls_of_CW (l := [_, _]) (N := 12) Tryd.func20 rfl rfl rfl ?_
  first | refine CW.seq (CW.region ?_) | refine CW.seq (CW.seq (CW.region ?_))
  refine LW.val rfl rfl (r_alloc zeroF59) ?_
  have hMA := Mod.alloc w (.cells (Array.ofFn (n := 44) fun i => dg DS0 i.val) 59)
  have hD0 := Blk.new w 44 (dg DS0) 59
  have hdh : hb ≠ w.heap.size := hB.ne (Nat.le_refl _)
  have hdp : pb ≠ w.heap.size := hP.ne (Nat.le_refl _)
  have hB1 := hMA.blk hB (by simp)
  have hP1 := hMA.blk hP (by simp)
  have hT1 := hMA.rd hT (by simp)
  have hd1 : w.heap.size ≠ 1 := Ne.symm (hT.ne (by decide) (Nat.le_refl _))
  have hok := ok_upd g d (nj m)
  refine LW.nil ?_
  first | refine CW.seq (CW.region ?_) | refine CW.seq (CW.seq (CW.region ?_))
  refine LW.val rfl rfl (r_move) ?_
  refine LW.call rfl rfl (e_call en19) ?_
  refine (fin_any hb w.heap.size (nr m) (8 * nj m) g (bufF d m) T (updF g d (nj m)) _ hB1 hD0 hT1 hdh h1 hd1 hok.1 hok.2 (by unfold nr nj; omega) (by unfold nj; omega)).mono ?_
  rintro e w2 ⟨rfl, hM2, hD2⟩
  refine ⟨_, rfl, ?_⟩
  have hP2 := hM2.blk hP1 (by simp [hdp, hne])
  have hct := dF_ctr g T d hm
  refine LW.nil (CW.region ?_)
  refine LW.val rfl rfl (r_move) ?_
  refine LW.call rfl rfl (e_call en17) ?_
  refine (read_any w.heap.size pb 0 32 32 nb c te (dF g T d m) w2 hD2 hct.2 hP2 (by omega) (by decide) (Ne.symm hdp) (by omega) (by decide)).mono ?_
  rintro e w3 ⟨rfl, hM3, hP3⟩
  refine ⟨_, rfl, ?_⟩
  refine LW.val rfl rfl (r_move) ?_
  refine LW.val rfl rfl (r_extract rfl rfl) ?_
  refine LW.val rfl rfl (r_extract rfl rfl) ?_
  exact LW.nil ⟨_, RetV.none rfl, rfl, (((Mod.refl [hb, pb] w).none hMA).trans hM2 (fun k hk => by simp at hk; rcases hk with h5 | h5 <;> simp [h5])).trans hM3 (fun k hk => by simp at hk; rcases hk with h5 | h5 <;> simp [h5]), hP3⟩
theorem sum_any (hb m : Nat) (g T d : Nat → Int) (w : World) (hB : Blk w hb 8854 (hF g d m) 56) (hT : Rd w 1 0 64 .u8 T) (h1 : hb ≠ 1) (hm : m ≤ 32768) :
    Calls Tryd.prog 16 #[.pointer (some ⟨hb, 0, none⟩), .slice none 0 0] w fun e w' => ∃ v x, e = .returned v ∧ Mod [hb] w w' ∧ SlB w' v 32 x := by
  obtain ⟨i5, hi, hsz, hby, hz⟩ := info5
  refine calls_of_CW (l := [_, _]) (N := 49) Tryd.func16 rfl rfl rfl ?_
  first | refine CW.seq (CW.region ?_) | refine CW.seq (CW.seq (CW.region ?_))
  refine LW.val rfl rfl (r_assign) ?_
  refine LW.nil ?_
  first | refine CW.seq (CW.region ?_) | refine CW.seq (CW.seq (CW.region ?_))
  refine LW.val rfl rfl (r_move) ?_
  refine LW.val rfl rfl (r_lenL (a := none) (n := 0) (c := 0) rfl Tryd.underlying22) ?_
  refine LW.val rfl rfl (r_move) ?_
  refine LW.val rfl rfl (r_nil rfl) ?_
  refine LW.val rfl rfl (r_field rfl fa56_0) ?_
  refine LW.val rfl rfl (r_load (a := ⟨hb, 0, none⟩) (v := .int .i64 32) rfl one3 (hB.cell (by decide))) ?_
  refine LW.val rfl rfl (r_addE rfl rfl (z := 32) (by decide)) ?_
  refine LW.val rfl rfl (r_assign) ?_
  refine LW.nil ?_
  first | refine CW.seq (CW.region ?_) | refine CW.seq (CW.seq (CW.region ?_))
  refine LW.val rfl rfl (r_move) ?_
  refine LW.val rfl rfl (r_move) ?_
  refine LW.val rfl rfl (r_capL (a := none) (n := 0) (c := 0) rfl Tryd.underlying22) ?_
  refine LW.val rfl rfl (r_leqE rfl rfl (q := false) rfl) ?_
  refine LW.val rfl rfl (r_move) ?_
  refine LW.pass (gno rfl rfl rfl rfl rfl) rfl ?_
  refine LW.pass (gno rfl rfl rfl rfl rfl) rfl ?_
  refine LW.pass (gno rfl rfl rfl rfl rfl) rfl ?_
  refine LW.pass (gno rfl rfl rfl rfl rfl) rfl ?_
  refine LW.val rfl rfl (r_pick rfl) ?_
  refine LW.nil ?_
  first | refine CW.cond_f rfl (CW.skip ?_) | refine CW.seq (CW.cond_f rfl (CW.skip ?_))
  first | refine CW.seq (CW.region ?_) | refine CW.seq (CW.seq (CW.region ?_))
  refine LW.val rfl rfl (r_move) ?_
  refine LW.val rfl rfl (r_nil rfl) ?_
  refine LW.val rfl rfl (r_field rfl fa56_0) ?_
  refine LW.val rfl rfl (r_load (a := ⟨hb, 0, none⟩) (v := .int .i64 32) rfl one3 (hB.cell (by decide))) ?_
  refine LW.val rfl rfl (r_make (n := 32) (u := .int .u8 0) rfl Tryd.underlying22 hi hz hsz hby rfl (by decide)) ?_
  refine LW.val rfl rfl (r_assign) ?_
  have hMA := Mod.alloc w (.cells (Array.ofFn (n := 32) fun i => (fun _ => Value.int .u8 0) i.val) 5)
  have hX0 := Blk.new w 32 (fun _ => Value.int .u8 0) 5
  have hne : hb ≠ w.heap.size := hB.ne (Nat.le_refl _)
  have hB1 := hMA.blk hB (by simp)
  have hT1 := hMA.rd hT (by simp)
  refine LW.nil ?_
  first | refine CW.seq (CW.region ?_) | refine CW.seq (CW.seq (CW.region ?_))
  refine LW.val rfl rfl (r_move) ?_
  refine LW.val rfl rfl (r_nil rfl) ?_
  refine LW.val rfl rfl (r_field rfl fa56_1) ?_
  refine LW.val rfl rfl (r_move) ?_
  refine LW.call rfl rfl (e_call en20) ?_
  refine (finalize_any hb w.heap.size m 32 g T d _ hB1 hT1 h1 hm _ 5 hX0 (Nat.le_refl _) (Ne.symm hne)).mono ?_
  rintro e w2 ⟨rfl, hM2, hX2⟩
  refine ⟨_, rfl, ?_⟩
  have hR : Rd w2 w.heap.size 0 32 .u8 (rdI (dF g T d m)) := hX2.rd (by decide) (fun i hi => by rw [put_at _ _ hi]; exact rdF_I _ _)
  have hM3 : Mod [hb] w w2 := ((Mod.refl [hb] w).none hMA).trans hM2 (fun k hk => by simp at hk; rcases hk with h5 | h5 <;> simp [h5])
  obtain ⟨cap, w3, hap, hM4, hR4⟩ := r_app0 none (c := 32) (by decide) (by decide) Tryd.underlying22 hi hz hsz hby hR
  refine LW.nil ?_
  first | refine CW.seq (CW.region ?_) | refine CW.seq (CW.seq (CW.region ?_))
  refine LW.val rfl rfl (r_move) ?_
  refine LW.val rfl rfl (r_move) ?_
  refine LW.val rfl rfl (hap _ _ _ _ _ _ _ _ rfl rfl) ?_
  refine LW.val rfl rfl (r_assign) ?_
  exact LW.nil (CW.ret ⟨_, RetV.one (t := 4) rfl rfl, _, _, rfl, hM3.none hM4, Or.inr ⟨_, _, _, rfl, hR4⟩⟩)
theorem clone0_any (w : World) : Calls Tryd.prog 15 #[.slice none 0 0] w fun e w' => e = .returned (.slice none 0 0) ∧ Mod [] w w' := by
  refine calls_of_CW (l := [_]) (N := 8) Tryd.func15 rfl rfl rfl ?_
  first | refine CW.seq (CW.region ?_) | refine CW.seq (CW.seq (CW.region ?_))
  refine LW.val rfl rfl (r_assign) ?_
  refine LW.nil ?_
  first | refine CW.seq (CW.region ?_) | refine CW.seq (CW.seq (CW.region ?_))
  refine LW.val rfl rfl r_move ?_
  refine LW.val rfl rfl (r_slcNil rfl rfl Tryd.underlying22) ?_
  refine LW.nil ?_
  first | refine CW.cond_t rfl ?_ | refine CW.seq (CW.cond_t rfl ?_)
  first | refine CW.seq (CW.region ?_) | refine CW.seq (CW.seq (CW.region ?_))
  refine LW.val rfl rfl (r_assign) ?_
  exact LW.nil (CW.ret ⟨_, RetV.one (t := 2) rfl rfl, rfl, Mod.refl _ _⟩)
theorem yielded_undef {N : Nat} {E : Env} {ops : Array Oper} {j t : Nat} {g : Oper} (hj : ops[j]? = some g) (hd : g.dst = some t) (hE : E t = undef) : yielded ops (actOf N E).tmps j = none := by
  unfold yielded
  rw [hj]
  simp only [Option.bind_some, hd]
  by_cases hlt : t < N
  · have hx : (actOf N E).tmps[t]? = some undef := by simp only [actOf, Array.getElem?_ofFn, hlt, dite_true, hE]
    rw [hx]; rfl
  · have hx : (actOf N E).tmps[t]? = none := by simp only [actOf, Array.getElem?_ofFn, hlt, dite_false]
    rw [hx]
/-- An operation whose guard was passed over itself. -/
theorem gun {N : Nat} {E : Env} {ops : Array Oper} {o g : Oper} {j t : Nat} {want : Bool} (hg : o.guard = some (j, want)) (hj : ops[j]? = some g) (hd : g.dst = some t) (hE : E t = undef) : Region.wanted o (yielded ops (actOf N E).tmps) = false := by
  unfold Region.wanted
  rw [hg]
  simp only [yielded_undef hj hd hE]
  rfl
theorem implsum_any (pb m : Nat) (v : Value) (g T d : Nat → Int) (w : World) (hP : w.cell? ⟨pb, 0, none⟩ = some v) (hv : SlA w v m d) (hm : m ≤ 32768) (hg : Rd w 0 0 8 .u32 g) (hT : Rd w 1 0 64 .u8 T) :
    Calls Tryd.prog 8 #[.slice (some ⟨pb, 0, none⟩) 1 1, .slice none 0 0] w fun e w' => ∃ a c, e = .returned (.slice a 32 c) ∧ Mod [] w w' := by
  refine calls_of_CW (l := [_, _]) (N := 12) Tryd.func8 rfl rfl rfl ?_
  first | refine CW.seq (CW.region ?_) | refine CW.seq (CW.seq (CW.region ?_))
  refine LW.val rfl rfl (r_assign) ?_
  refine LW.nil ?_
  have h1s : 1 < w.heap.size := lt_of_cell (hT 0 (by decide))
  first | refine CW.seq (CW.region ?_) | refine CW.seq (CW.seq (CW.region ?_))
  refine LW.call rfl rfl (e_call en11) ?_
  refine (new_any g w hg).mono ?_
  rintro e w1 ⟨rfl, hM1, hB1⟩
  refine ⟨_, rfl, ?_⟩
  refine LW.val rfl rfl (r_move) ?_
  refine LW.call rfl rfl (e_call en10) ?_
  refine (written_any w.heap.size pb m v g d w1 hB1 (hM1.cell hP (by simp)) (hv.mod hM1 (by simp)) hm).mono ?_
  rintro e w2 ⟨rfl, hM2, hB2⟩
  have hT2 := hM2.rd (hM1.rd hT (by simp)) (by simp; omega)
  refine ⟨_, rfl, ?_⟩
  refine LW.val rfl rfl (r_move) ?_
  refine LW.call rfl rfl (e_call en15) ?_
  refine (clone0_any w2).mono ?_
  rintro e w3 ⟨rfl, hM3⟩
  refine ⟨_, rfl, ?_⟩
  refine LW.call rfl rfl (e_call en16) ?_
  refine (sum_any w.heap.size m g T d w3 (hM3.blk hB2 (by simp)) (hM3.rd hT2 (by simp)) (by omega) hm).mono ?_
  rintro e w4 ⟨v4, x4, rfl, hM4, hv4⟩
  refine ⟨_, rfl, ?_⟩
  refine LW.call rfl rfl (e_call en15) ?_
  refine (clone_any 32 v4 x4 w4 (Or.inl hv4) (by decide)).mono ?_
  rintro e w5 ⟨v5, rfl, hM5, hv5⟩
  refine ⟨_, rfl, ?_⟩
  refine LW.val rfl rfl (r_assign) ?_
  obtain ⟨a5, c5, hv5e⟩ := hv5.lenE
  have hs1 := hM1.size
  have hs2 := hM2.size
  have hs3 := hM3.size
  refine LW.nil (CW.ret ⟨_, RetV.one (t := 4) rfl rfl, a5, c5, congrArg Ending.returned hv5e, ?_⟩)
  exact (((hM1.trans hM2 (fun k hk => by simp at hk; exact Or.inr (by omega))).none hM3).trans hM4 (fun k hk => by simp at hk; exact Or.inr (by omega))).none hM5
theorem size_any (hb : Nat) (g : Nat → Int) (w : World) (hB : Blk w hb 8854 (hh 0 0 g (fun _ => 0) CS0) 56) :
    Calls Tryd.prog 13 #[.pointer (some ⟨hb, 0, none⟩)] w fun e w' => e = .returned (.int .i64 32) ∧ w' = w := by
  refine calls_of_CW (l := [_]) (N := 7) Tryd.func13 rfl rfl rfl ?_
  first | refine CW.seq (CW.region ?_) | refine CW.seq (CW.seq (CW.region ?_))
  refine LW.val rfl rfl (r_assign) ?_
  refine LW.nil ?_
  first | refine CW.seq (CW.region ?_) | refine CW.seq (CW.seq (CW.region ?_))
  refine LW.val rfl rfl (r_move) ?_
  refine LW.val rfl rfl (r_nil rfl) ?_
  refine LW.val rfl rfl (r_field rfl fa56_0) ?_
  refine LW.val rfl rfl (r_load (a := ⟨hb, 0, none⟩) (v := .int .i64 32) rfl one3 (hB.cell (by decide))) ?_
  refine LW.val rfl rfl (r_assign) ?_
  exact LW.nil (CW.ret ⟨_, RetV.one (t := 2) rfl rfl, rfl, rfl⟩)
theorem bsize_any (hb : Nat) (w : World) :
    Calls Tryd.prog 14 #[.pointer (some ⟨hb, 0, none⟩)] w fun e w' => e = .returned (.int .i64 64) ∧ w' = w := by
  refine calls_of_CW (l := [_]) (N := 3) Tryd.func14 rfl rfl rfl ?_
  first | refine CW.seq (CW.region ?_) | refine CW.seq (CW.seq (CW.region ?_))
  refine LW.val rfl rfl (r_assign) ?_
  refine LW.nil ?_
  first | refine CW.seq (CW.region ?_) | refine CW.seq (CW.seq (CW.region ?_))
  refine LW.val rfl rfl (r_assign) ?_
  exact LW.nil (CW.ret ⟨_, RetV.one (t := 2) rfl rfl, rfl, rfl⟩)
theorem sizes_any (g : Nat → Int) (w : World) (hg : Rd w 0 0 8 .u32 g) :
    Calls Tryd.prog 7 #[] w fun e w' => e = .returned (.tuple #[.int .i64 32, .int .i64 64]) ∧ Mod [] w w' := by
  refine calls_of_CW (l := []) (N := 8) Tryd.func7 rfl rfl rfl ?_
  first | refine CW.seq (CW.region ?_) | refine CW.seq (CW.seq (CW.region ?_))
  refine LW.val rfl rfl (r_assign) ?_
  refine LW.val rfl rfl (r_assign) ?_
  refine LW.nil ?_
  first | refine CW.seq (CW.region ?_) | refine CW.seq (CW.seq (CW.region ?_))
  refine LW.call rfl rfl (e_call en11) ?_
  refine (new_any g w hg).mono ?_
  rintro e w1 ⟨rfl, hM1, hB1⟩
  refine ⟨_, rfl, ?_⟩
  refine LW.val rfl rfl (r_assign) ?_
  refine LW.nil ?_
  first | refine CW.seq (CW.region ?_) | refine CW.seq (CW.seq (CW.region ?_))
  refine LW.val rfl rfl (r_move) ?_
  refine LW.call rfl rfl (e_call en13) ?_
  refine (size_any _ g w1 hB1).mono ?_
  rintro e w2 ⟨rfl, hw2⟩
  refine ⟨_, rfl, ?_⟩
  rw [hw2]
  clear hw2 w2
  refine LW.val rfl rfl (r_move) ?_
  refine LW.call rfl rfl (e_call en14) ?_
  refine (bsize_any _ w1).mono ?_
  rintro e w2 ⟨rfl, hw2⟩
  refine ⟨_, rfl, ?_⟩
  rw [hw2]
  clear hw2 w2
  refine LW.val rfl rfl (r_assign) ?_
  refine LW.val rfl rfl (r_assign) ?_
  exact LW.nil (CW.ret ⟨_, RetV.two (t := 0) (u := 1) rfl rfl rfl, rfl, hM1⟩)
set_option maxHeartbeats 4000000 in
theorem sizesfn_any (m : Nat) (v : Value) (g T d : Nat → Int) (w : World) (hg : Rd w 0 0 8 .u32 g) (hT : Rd w 1 0 64 .u8 T) (hv : SlA w v m d) :
    Calls Tryd.prog 4 #[v] w fun e w' => e = .returned (.bool true) ∧ Mod [] w w' := by
  obtain ⟨a, c, hvE⟩ := hv.lenE
  have hv1 := hv.one
  obtain ⟨i22, z22, hi, hsz, hz⟩ := info22
  refine calls_of_CW (l := [_]) (N := 31) Tryd.func4 rfl rfl rfl ?_
  first | refine CW.seq (CW.region ?_) | refine CW.seq (CW.seq (CW.region ?_))
  refine LW.val rfl rfl (r_assign) ?_
  refine LW.nil ?_
  first | refine CW.seq (CW.region ?_) | refine CW.seq (CW.seq (CW.region ?_))
  refine LW.val rfl rfl (r_move) ?_
  refine LW.val rfl rfl (r_lenL (a := a) (n := m) (c := c) hvE Tryd.underlying22) ?_
  refine LW.val rfl rfl (r_gtrE rfl rfl (q := decide (2147483647 < m)) (decide_eq_decide.2 (by omega))) ?_
  refine LW.nil ?_
  by_cases hbig : 2147483647 < m
  · first | refine CW.cond_t (congrArg Value.bool (decide_eq_true hbig)) ?_ | refine CW.seq (CW.cond_t (congrArg Value.bool (decide_eq_true hbig)) ?_)
    first | refine CW.seq (CW.region ?_) | refine CW.seq (CW.seq (CW.region ?_))
    refine LW.val rfl rfl (r_assign) ?_
    exact LW.nil (CW.ret ⟨_, RetV.one (t := 2) rfl rfl, rfl, Mod.refl _ _⟩)
  first | refine CW.cond_f (congrArg Value.bool (decide_eq_false hbig)) (CW.skip ?_) | refine CW.seq (CW.cond_f (congrArg Value.bool (decide_eq_false hbig)) (CW.skip ?_))
  first | refine CW.seq (CW.region ?_) | refine CW.seq (CW.seq (CW.region ?_))
  refine LW.call rfl rfl (e_call en7) ?_
  refine (sizes_any g w hg).mono ?_
  rintro e w1 ⟨rfl, hM1⟩
  refine ⟨_, rfl, ?_⟩
  refine LW.val rfl rfl (r_move) ?_
  refine LW.val rfl rfl (r_extract rfl rfl) ?_
  refine LW.val rfl rfl (r_extract rfl rfl) ?_
  refine LW.val rfl rfl (r_assign) ?_
  refine LW.val rfl rfl (r_assign) ?_
  refine LW.nil (CW.base [(0, v), (3, .int .i64 32), (4, .int .i64 64)] ⟨rfl, rfl, rfl, trivial⟩ fun J => ?_)
  first | refine CW.seq (CW.region ?_) | refine CW.seq (CW.seq (CW.region ?_))
  refine LW.val rfl rfl r_move ?_
  refine LW.val rfl rfl (r_lenL (a := a) (n := m) (c := c) hvE Tryd.underlying22) ?_
  by_cases ha : 32768 < m
  · refine LW.val rfl rfl (r_gtrE rfl rfl (q := true) (decide_eq_true (by omega))) ?_
    refine LW.val rfl rfl (r_move) ?_
    refine LW.pass (gno rfl rfl rfl rfl rfl) rfl ?_
    refine LW.pass (gno rfl rfl rfl rfl rfl) rfl ?_
    refine LW.pass (gno rfl rfl rfl rfl rfl) rfl ?_
    refine LW.pass (gun rfl rfl rfl rfl) rfl ?_
    refine LW.pass (gun rfl rfl rfl rfl) rfl ?_
    refine LW.pass (gno rfl rfl rfl rfl rfl) rfl ?_
    refine LW.pass (gno rfl rfl rfl rfl rfl) rfl ?_
    refine LW.pass (gun rfl rfl rfl rfl) rfl ?_
    refine LW.pass (gun rfl rfl rfl rfl) rfl ?_
    refine LW.pass (gun rfl rfl rfl rfl) rfl ?_
    refine LW.pass (gun rfl rfl rfl rfl) rfl ?_
    refine LW.pass (gun rfl rfl rfl rfl) rfl ?_
    refine LW.pass (gun rfl rfl rfl rfl) rfl ?_
    refine LW.pass (gno rfl rfl rfl rfl rfl) rfl ?_
    refine LW.val rfl rfl (r_pick rfl) ?_
    refine LW.val rfl rfl (r_assign) ?_
    exact LW.nil (CW.ret ⟨_, RetV.one (t := 2) rfl rfl, rfl, hM1⟩)
  · refine LW.val rfl rfl (r_gtrE rfl rfl (q := false) (decide_eq_false (by omega))) ?_
    refine LW.val rfl rfl (r_move) ?_
    refine LW.gval (gyes rfl rfl rfl rfl rfl) rfl (r_move) ?_
    refine LW.gval (gyes rfl rfl rfl rfl rfl) rfl (r_eqlE rfl rfl (q := true) rfl) ?_
    refine LW.gval (gyes rfl rfl rfl rfl rfl) rfl (r_move) ?_
    refine LW.gval (gyes rfl rfl rfl rfl rfl) rfl (r_move) ?_
    refine LW.gval (gyes rfl rfl rfl rfl rfl) rfl (r_eqlE rfl rfl (q := true) rfl) ?_
    refine LW.gval (gyes rfl rfl rfl rfl rfl) rfl (r_pick rfl) ?_
    refine LW.gval (gyes rfl rfl rfl rfl rfl) rfl (r_move) ?_
    refine LW.gval (gyes rfl rfl rfl rfl rfl) rfl (r_move) ?_
    refine LW.gval (gyes rfl rfl rfl rfl rfl) rfl (r_bs1 (v := v) rfl hv1 Tryd.underlying24 hi hz hsz) ?_
    refine LW.gcall (gyes rfl rfl rfl rfl rfl) rfl (e_call en8) ?_
    have hM2 := hM1.none (Mod.alloc w1 (.cells (Array.ofFn (n := 1) fun i => (fun _ => v) i.val) 22))
    have hP2 := (Blk.new w1 1 (fun _ => v) 22).cell (i := 0) (by decide)
    refine (implsum_any w1.heap.size m v g T d _ hP2 (hv.mod hM2 (by simp)) (by omega) (hM2.rd hg (by simp)) (hM2.rd hT (by simp))).mono ?_
    rintro e w3 ⟨a3, c3, rfl, hM3⟩
    refine ⟨_, rfl, ?_⟩
    refine LW.gval (gyes rfl rfl rfl rfl rfl) rfl (r_lenL (a := a3) (n := 32) (c := c3) rfl Tryd.underlying22) ?_
    refine LW.gval (gyes rfl rfl rfl rfl rfl) rfl (r_move) ?_
    refine LW.gval (gyes rfl rfl rfl rfl rfl) rfl (r_eqlE rfl rfl (q := true) rfl) ?_
    refine LW.gval (gyes rfl rfl rfl rfl rfl) rfl (r_pick rfl) ?_
    refine LW.val rfl rfl (r_pick rfl) ?_
    refine LW.val rfl rfl (r_assign) ?_
    exact LW.nil (CW.ret ⟨_, RetV.one (t := 2) rfl rfl, rfl, hM2.none hM3⟩)
end Go.Proofs.YtfaopfaghnefdaaDoor
