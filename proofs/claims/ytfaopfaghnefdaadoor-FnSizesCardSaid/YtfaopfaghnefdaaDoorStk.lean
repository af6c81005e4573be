/- The stack of chaining values: pushL, flush, pushN, and consume above them. Conditions: the state is sound, its buffer not full where a value is laid; the values and the input lie in other blocks than the hasher. -/
import Derived.Test.YtfaopfaghnefdaaDoorHashF
namespace Go.Proofs.YtfaopfaghnefdaaDoor
open Go
theorem en41 : Enters Tryd.prog 41 := ⟨_, Tryd.func41, by kernel_rfl, rfl⟩
theorem en42 : Enters Tryd.prog 42 := ⟨_, Tryd.func42, by kernel_rfl, rfl⟩
theorem en43 : Enters Tryd.prog 43 := ⟨_, Tryd.func43, by kernel_rfl, rfl⟩
theorem en35 : Enters Tryd.prog 35 := ⟨_, Tryd.func35, by kernel_rfl, rfl⟩
theorem en29 : Enters Tryd.prog 29 := ⟨_, Tryd.func29, by kernel_rfl, rfl⟩
theorem en27 : Enters Tryd.prog 27 := ⟨_, Tryd.func27, by kernel_rfl, rfl⟩
theorem en39 : Enters Tryd.prog 39 := ⟨_, Tryd.func39, by kernel_rfl, rfl⟩
theorem zero47 : (Tryd.prog.info? 47).map (·.zero) = some (some (aggF 64 fun _ => .int .u32 0)) := by kernel_rfl
theorem zeroF47 : ZeroIs Tryd.prog 47 64 (fun _ => .int .u32 0) := ⟨_, zero47, rfl⟩
theorem zero46 : (Tryd.prog.info? 46).map (·.zero) = some (some (aggF 8 fun _ => .int .u8 0)) := by kernel_rfl
theorem zeroF46 : ZeroIs Tryd.prog 46 8 (fun _ => .int .u8 0) := ⟨_, zero46, rfl⟩
theorem eq0 (x : Nat) : (((x : Nat) : Int) == 0) = decide (x = 0) := by by_cases h : x = 0 <;> simp [h]
theorem u8succ (l : Nat) : IntKind.u8.wrap ((l : Int) + 1) = (((l + 1) % 256 : Nat) : Int) := by
  have h : IntKind.u8.wrap ((l : Int) + 1) = ((l : Int) + 1) % (2 ^ 8 : Int) := by simp [IntKind.wrap, IntKind.signed, IntKind.bits]
  rw [h]; omega
/-- An array literal without parts. -/
theorem r_build0 {P : Program} {ρ : Operand → Value} {w : World} {dst : Option Tmp} {ty : TypeId} {pos : String} {af : Array Edge} {gd : Option (Nat × Bool)} {t e m : Nat} {f : Nat → Value} (hz : (P.info? t).map (·.zero) = some (some (aggF m f))) (hu : P.underlying t = some (.array m e)) (he : SizeIs P e 1) :
    (execOp ρ ⟨dst, .build t #[], ty, pos, af, gd⟩).run P w = .ok (.value (aggF m f)) w := by
  cases hq : P.info? t with
  | none => simp [hq] at hz
  | some i =>
    have hz' : i.zero = some (aggF m f) := by simpa [hq] using hz
    have hs' := fun w => run_under (w := w) hu
    have he' := fun w => run_sizeOf (w := w) he
    simp [execOp, Instr.build, zeroValue, typeInfo, hq, hz', hs', he', Instr.fill, aggF, Value.cells]
set_option maxHeartbeats 2000000 in
theorem pushl_any (hb vb n l : Nat) (b : Nat → Value) (s : CS) (te : TypeId) (cv : Nat → Int) (w : World) (hB : Blk w hb 8854 (hc b s) te) (hV : Rd w vb 0 64 .u32 cv) (hne : vb ≠ hb) (hn : n < 8) (hl : l < 256) (hs : s.ok) (h8 : s.bufn < 8) :
    Calls Tryd.prog 35 #[.pointer (some ⟨hb, 12, none⟩), .int .u8 ((l : Nat) : Int), .pointer (some ⟨vb, 0, none⟩), .int .i64 ((n : Nat) : Int)] w fun e w' => e = .returned (.tuple #[]) ∧ Mod [hb] w w' ∧ Blk w' hb 8854 (hc b (pushF s l cv n)) te := by
  have hq : l % 64 < 64 := Nat.mod_lt _ (by decide)
  have hp := pow_lt64 hq
  refine calls_of_CW (l := [_, _, _, _]) (N := 87) Tryd.func35 rfl rfl rfl ?_
  first | refine CW.seq (CW.region ?_) | refine CW.seq (CW.seq (CW.region ?_))
  refine LW.val rfl rfl (r_move) ?_
  refine LW.val rfl rfl (r_andE rfl rfl (bw_u8_63 hl)) ?_
  refine LW.val rfl rfl (r_shlE rfl rfl (by omega) (shl1 (q := l % 64) hq)) ?_
  refine LW.val rfl rfl (r_assign) ?_
  refine LW.nil (CW.base [(0, .pointer (some ⟨hb, 12, none⟩)), (1, .int .u8 ((l : Nat) : Int)), (2, .pointer (some ⟨vb, 0, none⟩)), (3, .int .i64 ((n : Nat) : Int)), (8, .int .u64 ((2 ^ (l % 64) : Nat) : Int))] ⟨rfl, rfl, rfl, rfl, rfl, trivial⟩ fun J => ?_)
  first | refine CW.seq (CW.region ?_) | refine CW.seq (CW.seq (CW.region ?_))
  refine LW.val rfl rfl (r_move) ?_
  refine LW.val rfl rfl (r_nil rfl) ?_
  refine LW.val rfl rfl (r_field rfl fa51_0) ?_
  refine LW.val rfl rfl (r_load (a := ⟨hb, 12, none⟩) (v := .int .u64 ((s.occ : Nat) : Int)) rfl one45 (hB.cell (by decide))) ?_
  refine LW.val rfl rfl (r_move) ?_
  refine LW.val rfl rfl (r_andE rfl rfl (bw_u64 hs.occ hp).1) ?_
  refine LW.val rfl rfl (r_eqlE rfl rfl (eq0 _)) ?_
  refine LW.nil ?_
  by_cases h : s.occ &&& 2 ^ (l % 64) = 0
  · first | refine CW.cond_t (congrArg Value.bool (decide_eq_true h)) ?_ | refine CW.seq (CW.cond_t (congrArg Value.bool (decide_eq_true h)) ?_)
    first | refine CW.seq (CW.region ?_) | refine CW.seq (CW.seq (CW.region ?_))
    refine LW.val rfl rfl (r_move) ?_
    refine LW.val rfl rfl (r_move) ?_
    refine LW.val rfl rfl (r_move) ?_
    refine LW.val rfl rfl (r_move) ?_
    refine LW.val rfl rfl (r_andE rfl rfl (bw_u8_63 hl)) ?_
    refine LW.val rfl rfl (r_nil rfl) ?_
    refine LW.val rfl rfl (r_field rfl fa51_4) ?_
    refine LW.val rfl rfl (r_ix8 rfl rfl arr49 hq) ?_
    refine LW.call rfl rfl (e_call en41) ?_
    refine (rdch_any vb 0 hb (150 + l % 64 * 8) 8854 n (hc b s) te cv w hV hB (by omega) hn (Or.inl hne)).mono ?_
    rintro e w' ⟨rfl, hM, hB'⟩
    refine ⟨_, rfl, ?_⟩
    rw [hc_setStk b s hq (fun k => cv (8 * k + n))] at hB'
    refine LW.nil ?_
    first | refine CW.seq (CW.region ?_) | refine CW.seq (CW.seq (CW.region ?_))
    refine LW.val rfl rfl (r_move) ?_
    refine LW.val rfl rfl (r_nil rfl) ?_
    refine LW.val rfl rfl (r_field rfl fa51_0) ?_
    refine LW.val rfl rfl (r_load (a := ⟨hb, 12, none⟩) (v := .int .u64 ((s.occ : Nat) : Int)) rfl one45 (hB'.cell (by decide))) ?_
    refine LW.val rfl rfl (r_move) ?_
    refine LW.val rfl rfl (r_xorE rfl rfl (bw_u64 hs.occ hp).2) ?_
    refine LW.val rfl rfl (r_nil rfl) ?_
    refine LW.val rfl rfl (r_field rfl fa51_0) ?_
    refine LW.eff rfl rfl (r_storeB (i := 12) rfl rfl one45 rfl hB' (by decide)) ?_
    have h2 := hB'.set (i := 12) (.int .u64 ((s.occ ^^^ 2 ^ (l % 64) : Nat) : Int)) (by decide)
    rw [hc_setOcc] at h2
    refine LW.nil (CW.ret ⟨_, RetV.none rfl, rfl, hM.old (Mod.set _ hb _ _) (by simp), by rw [pushF, if_pos h]; exact h2⟩)
  · first | refine CW.cond_f (congrArg Value.bool (decide_eq_false h)) (CW.skip ?_) | refine CW.seq (CW.cond_f (congrArg Value.bool (decide_eq_false h)) (CW.skip ?_))
    refine CW.seq (CW.drawn (fun w => w.cell? ⟨hb, 21, none⟩ = some (.int .i64 ((s.bufn : Nat) : Int))) [(0, true), (1, true), (2, true), (3, true), (4, true), (5, true), (6, true), (7, true), (8, true), (9, true), (10, false)] mixed (by kernel_rfl) (by kernel_rfl) ?_)
    have h1 := hB.drew.set (i := 13 + s.bufn) (.int .u8 ((l : Nat) : Int)) (by omega)
    rw [hc_setLvl b s h8] at h1
    have hS : (fun w => w.cell? ⟨hb, 21, none⟩ = some (.int .i64 ((s.bufn : Nat) : Int))) w.drew := hB.drew.cell (i := 21) (by decide)
    refine OW.val hS rfl rfl rfl (fun _ _ => r_move) ?_
    refine OW.val hS rfl rfl rfl (fun _ _ => r_move) ?_
    refine OW.val hS rfl rfl rfl (fun _ _ => r_nil rfl) ?_
    refine OW.val hS rfl rfl rfl (fun _ _ => r_field rfl fa51_2) ?_
    refine OW.val hS rfl rfl rfl (fun _ hS => r_load (a := ⟨hb, 21, none⟩) rfl one3 hS) ?_
    refine OW.val hS rfl rfl rfl (fun _ _ => r_andE rfl rfl (bw_i64_7 h8)) ?_
    refine OW.val hS rfl rfl rfl (fun _ _ => r_move) ?_
    refine OW.val hS rfl rfl rfl (fun _ _ => r_nil rfl) ?_
    refine OW.val hS rfl rfl rfl (fun _ _ => r_field rfl fa51_1) ?_
    refine OW.val hS rfl rfl rfl (fun _ _ => r_ix rfl rfl arr46 h8) ?_
    refine OW.eff rfl rfl rfl (r_storeB (i := 13 + s.bufn) rfl rfl one5 rfl hB.drew (by omega)) (h1.cell (i := 21) (by decide)) ?_
    refine OW.nil (CW.fresh [(0, .pointer (some ⟨hb, 12, none⟩)), (1, .int .u8 ((l : Nat) : Int)), (2, .pointer (some ⟨vb, 0, none⟩)), (3, .int .i64 ((n : Nat) : Int)), (8, .int .u64 ((2 ^ (l % 64) : Nat) : Int))] ⟨rfl, rfl, rfl, rfl, rfl, trivial⟩ (φ := (fun w' => Mod [hb] w w' ∧ Blk w' hb 8854 (hc b (s.setLvl s.bufn l)) te)) ⟨(Mod.drew _ _).old (Mod.set _ hb _ _) (by simp), h1⟩ ?_)
    clear hS h1 J
    rintro J w1 ⟨hM, h1⟩
    refine CW.seq (CW.drawn (fun w => w.cell? ⟨hb, 21, none⟩ = some (.int .i64 ((s.bufn : Nat) : Int))) [(0, true), (1, true), (2, true), (3, true), (4, true), (5, true), (6, true), (7, true), (8, true), (9, true), (10, true), (11, true), (12, true), (13, true), (14, false)] mixed (by kernel_rfl) (by kernel_rfl) ?_)
    have hS : (fun w => w.cell? ⟨hb, 21, none⟩ = some (.int .i64 ((s.bufn : Nat) : Int))) w1.drew := h1.drew.cell (i := 21) (by decide)
    refine OW.val hS rfl rfl rfl (fun _ _ => r_move) ?_
    refine OW.val hS rfl rfl rfl (fun _ _ => r_move) ?_
    refine OW.val hS rfl rfl rfl (fun _ _ => r_andE rfl rfl (bw_u8_63 hl)) ?_
    refine OW.val hS rfl rfl rfl (fun _ _ => r_nil rfl) ?_
    refine OW.val hS rfl rfl rfl (fun _ _ => r_field rfl fa51_4) ?_
    refine OW.val hS rfl rfl rfl (fun _ _ => r_ix8 rfl rfl arr49 hq) ?_
    refine OW.val hS rfl rfl rfl (fun _ _ => r_move) ?_
    refine OW.val hS rfl rfl rfl (fun _ _ => r_nil rfl) ?_
    refine OW.val hS rfl rfl rfl (fun _ _ => r_field rfl fa51_3) ?_
    refine OW.val hS rfl rfl rfl (fun _ _ => r_index_arr rfl rfl arr48 (by decide) (by decide)) ?_
    refine OW.val hS rfl rfl rfl (fun _ _ => r_move) ?_
    refine OW.val hS rfl rfl rfl (fun _ _ => r_nil rfl) ?_
    refine OW.val hS rfl rfl rfl (fun _ _ => r_field rfl fa51_2) ?_
    refine OW.val hS rfl rfl rfl (fun _ hS => r_load (a := ⟨hb, 21, none⟩) rfl one3 hS) ?_
    refine OW.call rfl rfl rfl (e_call en42) ?_
    refine (wrch_any hb (150 + l % 64 * 8) hb 22 8854 s.bufn _ te (fun k => s.stk (l % 64 * 8 + k)) _ (h1.drew.rd (by omega) (fun k hk => by rw [Nat.add_assoc, hc_stk0 _ _ (by omega)]; rfl)) h1.drew (by omega) h8 (Or.inr (Or.inr (by omega)))).mono ?_
    rintro e w2 ⟨rfl, hM2, h2⟩
    rw [hc_setL b _ h8 (fun k => s.stk (l % 64 * 8 + k))] at h2
    refine ⟨_, rfl, h2.cell (i := 21) (by decide), ?_⟩
    refine OW.nil (CW.fresh [(0, .pointer (some ⟨hb, 12, none⟩)), (1, .int .u8 ((l : Nat) : Int)), (2, .pointer (some ⟨vb, 0, none⟩)), (3, .int .i64 ((n : Nat) : Int)), (8, .int .u64 ((2 ^ (l % 64) : Nat) : Int))] ⟨rfl, rfl, rfl, rfl, rfl, trivial⟩ (φ := (fun w' => Mod [hb] w w' ∧ Blk w' hb 8854 (hc b ((s.setLvl s.bufn l).setL s.bufn (fun k => s.stk (l % 64 * 8 + k)))) te)) ⟨hM.drewR.old hM2 (by simp), h2⟩ ?_)
    clear hS h1 h2 hM hM2 w1 w2 J
    rintro J w1 ⟨hM, h1⟩
    refine CW.seq (CW.drawn (fun w => w.cell? ⟨hb, 21, none⟩ = some (.int .i64 ((s.bufn : Nat) : Int))) [(0, true), (1, true), (2, true), (3, true), (4, true), (5, true), (6, true), (7, true), (8, true), (9, true), (10, false)] mixed (by kernel_rfl) (by kernel_rfl) ?_)
    have hS : (fun w => w.cell? ⟨hb, 21, none⟩ = some (.int .i64 ((s.bufn : Nat) : Int))) w1.drew := h1.drew.cell (i := 21) (by decide)
    have hV1 := hM.rd hV (by simpa using hne)
    refine OW.val hS rfl rfl rfl (fun _ _ => r_move) ?_
    refine OW.val hS rfl rfl rfl (fun _ _ => r_move) ?_
    refine OW.val hS rfl rfl rfl (fun _ _ => r_move) ?_
    refine OW.val hS rfl rfl rfl (fun _ _ => r_nil rfl) ?_
    refine OW.val hS rfl rfl rfl (fun _ _ => r_field rfl fa51_3) ?_
    refine OW.val hS rfl rfl rfl (fun _ _ => r_index_arr rfl rfl arr48 (by decide) (by decide)) ?_
    refine OW.val hS rfl rfl rfl (fun _ _ => r_move) ?_
    refine OW.val hS rfl rfl rfl (fun _ _ => r_nil rfl) ?_
    refine OW.val hS rfl rfl rfl (fun _ _ => r_field rfl fa51_2) ?_
    refine OW.val hS rfl rfl rfl (fun _ hS => r_load (a := ⟨hb, 21, none⟩) rfl one3 hS) ?_
    refine OW.call rfl rfl rfl (e_call en43) ?_
    refine (cpch_any vb 0 hb 86 8854 n s.bufn _ te cv _ (hV1.drew) h1.drew (by omega) hn h8 (Or.inl hne)).mono ?_
    rintro e w2 ⟨rfl, hM2, h2⟩
    rw [hc_setR b _ h8 (fun k => cv (8 * k + n))] at h2
    refine ⟨_, rfl, h2.cell (i := 21) (by decide), ?_⟩
    refine OW.nil (CW.fresh [(0, .pointer (some ⟨hb, 12, none⟩)), (1, .int .u8 ((l : Nat) : Int)), (2, .pointer (some ⟨vb, 0, none⟩)), (3, .int .i64 ((n : Nat) : Int)), (8, .int .u64 ((2 ^ (l % 64) : Nat) : Int))] ⟨rfl, rfl, rfl, rfl, rfl, trivial⟩ (φ := (fun w' => Mod [hb] w w' ∧ Blk w' hb 8854 (hc b (((s.setLvl s.bufn l).setL s.bufn (fun k => s.stk (l % 64 * 8 + k))).setR s.bufn (fun k => cv (8 * k + n)))) te)) ⟨hM.drewR.old hM2 (by simp), h2⟩ ?_)
    clear hS h1 h2 hM hM2 hV1 w1 w2 J
    rintro J w1 ⟨hM, h1⟩
    first | refine CW.seq (CW.region ?_) | refine CW.seq (CW.seq (CW.region ?_))
    refine LW.val rfl rfl (r_move) ?_
    refine LW.val rfl rfl (r_nil rfl) ?_
    refine LW.val rfl rfl (r_field rfl fa51_2) ?_
    refine LW.val rfl rfl (r_load (a := ⟨hb, 21, none⟩) (v := .int .i64 ((s.bufn : Nat) : Int)) rfl one3 (h1.cell (by decide))) ?_
    refine LW.val rfl rfl (r_addE rfl rfl (succ_i64 (by omega))) ?_
    refine LW.val rfl rfl (r_nil rfl) ?_
    refine LW.val rfl rfl (r_field rfl fa51_2) ?_
    refine LW.eff rfl rfl (r_storeB (i := 21) rfl rfl one3 rfl h1 (by decide)) ?_
    have h2 := h1.set (i := 21) (.int .i64 ((s.bufn + 1 : Nat) : Int)) (by decide)
    rw [hc_setBufn] at h2
    refine LW.nil (CW.fresh [(0, .pointer (some ⟨hb, 12, none⟩)), (1, .int .u8 ((l : Nat) : Int)), (2, .pointer (some ⟨vb, 0, none⟩)), (3, .int .i64 ((n : Nat) : Int)), (8, .int .u64 ((2 ^ (l % 64) : Nat) : Int))] ⟨rfl, rfl, rfl, rfl, rfl, trivial⟩ (φ := (fun w' => Mod [hb] w w' ∧ Blk w' hb 8854 (hc b ((((s.setLvl s.bufn l).setL s.bufn (fun k => s.stk (l % 64 * 8 + k))).setR s.bufn (fun k => cv (8 * k + n))).setBufn (s.bufn + 1))) te)) ⟨hM.old (Mod.set _ hb _ _) (by simp), h2⟩ ?_)
    clear h1 h2 hM w1 J
    rintro J w1 ⟨hM, h1⟩
    refine CW.region ?_
    refine LW.val rfl rfl (r_move) ?_
    refine LW.val rfl rfl (r_nil rfl) ?_
    refine LW.val rfl rfl (r_field rfl fa51_0) ?_
    refine LW.val rfl rfl (r_load (a := ⟨hb, 12, none⟩) (v := .int .u64 ((s.occ : Nat) : Int)) rfl one45 (h1.cell (by decide))) ?_
    refine LW.val rfl rfl (r_move) ?_
    refine LW.val rfl rfl (r_xorE rfl rfl (bw_u64 hs.occ hp).2) ?_
    refine LW.val rfl rfl (r_nil rfl) ?_
    refine LW.val rfl rfl (r_field rfl fa51_0) ?_
    refine LW.eff rfl rfl (r_storeB (i := 12) rfl rfl one45 rfl h1 (by decide)) ?_
    have h2 := h1.set (i := 12) (.int .u64 ((s.occ ^^^ 2 ^ (l % 64) : Nat) : Int)) (by decide)
    rw [hc_setOcc] at h2
    exact LW.nil ⟨_, RetV.none rfl, rfl, hM.old (Mod.set _ hb _ _) (by simp), by rw [pushF, if_neg h]; exact h2⟩
end Go.Proofs.YtfaopfaghnefdaaDoor
