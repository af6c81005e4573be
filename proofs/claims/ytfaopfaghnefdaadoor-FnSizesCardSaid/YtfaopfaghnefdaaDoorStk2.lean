/- flush, pushN and consume. Conditions: the state is sound; the values and the input lie in other blocks than the hasher; the key is the hasher's own. -/
import Derived.Test.YtfaopfaghnefdaaDoorStk
namespace Go.Proofs.YtfaopfaghnefdaaDoor
open Go
theorem eq8 (x : Nat) : (((x : Nat) : Int) == 8) = decide (x = 8) := by
  by_cases h : x = 8
  · subst h; rfl
  · have h2 : ¬ ((x : Nat) : Int) = 8 := by omega
    simp [h, h2]
theorem hpC_out (L R K : Nat → Int) (f : Int) (n : Nat) {w : World} {xb : Nat} {te : TypeId} (h : Blk w xb 64 (hpC (fun _ => .int .u32 0) 0 n (hpF L R K f)) te) : Rd w xb 0 64 .u32 (hpO L R K f n) :=
  h.rd (by decide) fun i hi => by
    unfold hpC hpO
    by_cases hc : i % 8 < n
    · rw [if_pos (by omega), if_pos hc, Nat.zero_add, Nat.sub_zero]
    · rw [if_neg (by omega), if_neg hc]
set_option maxHeartbeats 2000000 in
theorem flush_any (hb : Nat) (b : Nat → Value) (s : CS) (te : TypeId) (flags : Int) (K : Nat → Int) (w : World) (hB : Blk w hb 8854 (hc b s) te) (hK : ∀ i, i < 8 → b (4 + i) = .int .u32 (K i)) (hs : s.ok) :
    Calls Tryd.prog 29 #[.pointer (some ⟨hb, 12, none⟩), .int .u32 flags, .pointer (some ⟨hb, 4, none⟩)] w fun e w' => e = .returned (.tuple #[]) ∧ Mod [hb] w w' ∧ Blk w' hb 8854 (hc b (flushF s flags K)) te := by
  have h8 := hs.bufn
  refine calls_of_CW (l := [_, _, _]) (N := 53) Tryd.func29 rfl rfl rfl ?_
  first | refine CW.seq (CW.region ?_) | refine CW.seq (CW.seq (CW.region ?_))
  refine LW.val rfl rfl (r_alloc zeroF47) ?_
  refine LW.nil ?_
  have hMA := Mod.alloc w (.cells (Array.ofFn (n := 64) fun i => (fun _ => Value.int .u32 0) i.val) 47)
  have hX := Blk.new w 64 (fun _ => Value.int .u32 0) 47
  obtain ⟨xb, hxb⟩ : ∃ xb, xb = w.heap.size := ⟨_, rfl⟩
  rw [← hxb] at hX ⊢
  have hHX : hb ≠ xb := hB.ne (by omega)
  have hB1 := hMA.blk hB (by simp)
  have hM1 := (Mod.refl [hb] w).none hMA
  obtain ⟨w1, hw1⟩ : ∃ w1, w1 = (w.alloc (.cells (Array.ofFn (n := 64) fun i => (fun _ => Value.int .u32 0) i.val) 47)) := ⟨_, rfl⟩
  rw [← hw1] at hX hB1 hM1 ⊢
  clear hw1 hMA
  refine CW.seq (CW.drawn (fun w => w.cell? ⟨hb, 21, none⟩ = some (.int .i64 ((s.bufn : Nat) : Int))) [(0, true), (1, true), (2, true), (3, true), (4, true), (5, true), (6, true), (7, true), (8, true), (9, true), (10, true), (11, true), (12, true), (13, true), (14, true), (15, false)] mixed (by kernel_rfl) (by kernel_rfl) ?_)
  have hS : (fun w => w.cell? ⟨hb, 21, none⟩ = some (.int .i64 ((s.bufn : Nat) : Int))) w1.drew := hB1.drew.cell (i := 21) (by decide)
  refine OW.val hS rfl rfl rfl (fun _ _ => r_move) ?_
  refine OW.val hS rfl rfl rfl (fun _ _ => r_nil rfl) ?_
  refine OW.val hS rfl rfl rfl (fun _ _ => r_field rfl fa51_3) ?_
  refine OW.val hS rfl rfl rfl (fun _ _ => r_index_arr rfl rfl arr48 (by decide) (by decide)) ?_
  refine OW.val hS rfl rfl rfl (fun _ _ => r_move) ?_
  refine OW.val hS rfl rfl rfl (fun _ _ => r_nil rfl) ?_
  refine OW.val hS rfl rfl rfl (fun _ _ => r_field rfl fa51_3) ?_
  refine OW.val hS rfl rfl rfl (fun _ _ => r_index_arr rfl rfl arr48 (by decide) (by decide)) ?_
  refine OW.val hS rfl rfl rfl (fun _ _ => r_move) ?_
  refine OW.val hS rfl rfl rfl (fun _ _ => r_or rfl rfl) ?_
  refine OW.val hS rfl rfl rfl (fun _ _ => r_move) ?_
  refine OW.val hS rfl rfl rfl (fun _ _ => r_move) ?_
  refine OW.val hS rfl rfl rfl (fun _ _ => r_nil rfl) ?_
  refine OW.val hS rfl rfl rfl (fun _ _ => r_field rfl fa51_2) ?_
  refine OW.val hS rfl rfl rfl (fun _ hS => r_load (a := ⟨hb, 21, none⟩) rfl one3 hS) ?_
  refine OW.call rfl rfl rfl (e_call en37) ?_
  refine (hashp37_any hb 22 hb 86 hb 4 xb 0 64 s.bufn _ 47 s.buf (fun i => s.buf (64 + i)) K (bw .or .u32 flags 4) _ (hB1.drew.rd (by omega) (fun k hk => hc_buf0 b s (by omega))) (hB1.drew.rd (by omega) (fun k hk => by rw [show 86 + k = 22 + (64 + k) by omega]; exact hc_buf0 b s (by omega))) (hB1.drew.rd (by omega) (fun k hk => by rw [hc_lo b s (by omega)]; exact hK k hk)) hHX hHX hHX hX.drew (by decide) h8).mono ?_
  rintro e w2 ⟨rfl, hM2, hX2⟩
  have hB2 := hM2.blk hB1.drew (by simpa using hHX)
  refine ⟨_, rfl, hB2.cell (i := 21) (by decide), ?_⟩
  refine OW.nil (CW.fresh [(0, .pointer (some ⟨hb, 12, none⟩)), (1, .int .u32 flags), (2, .pointer (some ⟨hb, 4, none⟩)), (6, .pointer (some ⟨xb, 0, none⟩))] ⟨rfl, rfl, rfl, rfl, trivial⟩ (φ := (fun w' => Mod [hb] w w' ∧ Blk w' hb 8854 (hc b s) te ∧ Rd w' xb 0 64 .u32 (s.out flags K))) ⟨hM1.drewR.fresh hM2 (by omega), hB2, hpC_out _ _ _ _ _ hX2⟩ ?_)
  clear hS hX hM1 hM2 hB1 hB2 hX2 w1 w2
  rintro J w1 ⟨hM1, hB1, hX1⟩
  refine CW.seq (CW.drawn (fun w => w.cell? ⟨hb, 21, none⟩ = some (.int .i64 ((s.bufn : Nat) : Int)) ∧ ∀ j, j < 8 → w.cell? ⟨hb, 13 + j, none⟩ = some (.int .u8 ((s.lvls j : Nat) : Int))) [(0, true), (1, true), (2, true), (3, true), (4, true), (5, true), (6, true), (7, true), (8, false), (9, true), (10, false)] mixed (by kernel_rfl) (by kernel_rfl) ?_)
  have hS : (fun w => w.cell? ⟨hb, 21, none⟩ = some (.int .i64 ((s.bufn : Nat) : Int)) ∧ ∀ j, j < 8 → w.cell? ⟨hb, 13 + j, none⟩ = some (.int .u8 ((s.lvls j : Nat) : Int))) w1.drew := ⟨hB1.drew.cell (i := 21) (by decide), fun j hj => by rw [hB1.drew.cell (i := 13 + j) (by omega), hc_lvl0 b s hj]⟩
  have hMA := Mod.alloc w1.drew (.cells (Array.ofFn (n := 8) fun i => (fun _ => Value.int .u8 0) i.val) 46)
  have hL0 := (Blk.new w1.drew 8 (fun _ => Value.int .u8 0) 46).putC (o := 0) (m := 8) (f := fun j => .int .u8 ((s.lvls j : Nat) : Int)) (by decide)
  have hMP := Mod.putC (w1.drew.alloc (.cells (Array.ofFn (n := 8) fun i => (fun _ => Value.int .u8 0) i.val) 46)) w1.drew.heap.size 0 8 (fun j => .int .u8 ((s.lvls j : Nat) : Int))
  have hHL : hb ≠ w1.drew.heap.size := hB1.drew.ne (Nat.le_refl _)
  have hXL : xb ≠ w1.drew.heap.size := hX1.drew.ne (by decide) (Nat.le_refl _)
  have hBA := hMA.blk hB1.drew (by simp)
  have hBP := hMP.blk hBA (by simpa using hHL)
  have hS1 : (fun w => w.cell? ⟨hb, 21, none⟩ = some (.int .i64 ((s.bufn : Nat) : Int)) ∧ ∀ j, j < 8 → w.cell? ⟨hb, 13 + j, none⟩ = some (.int .u8 ((s.lvls j : Nat) : Int))) (w1.drew.alloc (.cells (Array.ofFn (n := 8) fun i => (fun _ => Value.int .u8 0) i.val) 46)) := ⟨hBA.cell (i := 21) (by decide), fun j hj => by rw [hBA.cell (i := 13 + j) (by omega), hc_lvl0 b s hj]⟩
  have hS2 : (fun w => w.cell? ⟨hb, 21, none⟩ = some (.int .i64 ((s.bufn : Nat) : Int)) ∧ ∀ j, j < 8 → w.cell? ⟨hb, 13 + j, none⟩ = some (.int .u8 ((s.lvls j : Nat) : Int))) (putC (w1.drew.alloc (.cells (Array.ofFn (n := 8) fun i => (fun _ => Value.int .u8 0) i.val) 46)) w1.drew.heap.size 0 8 (fun j => .int .u8 ((s.lvls j : Nat) : Int))) := ⟨hBP.cell (i := 21) (by decide), fun j hj => by rw [hBP.cell (i := 13 + j) (by omega), hc_lvl0 b s hj]⟩
  refine OW.val hS rfl rfl rfl (fun _ _ => r_move) ?_
  refine OW.val hS rfl rfl rfl (fun _ _ => r_nil rfl) ?_
  refine OW.val hS rfl rfl rfl (fun _ _ => r_field rfl fa51_2) ?_
  refine OW.val hS rfl rfl rfl (fun _ hS => r_load (a := ⟨hb, 21, none⟩) rfl one3 hS.1) ?_
  refine OW.val hS rfl rfl rfl (fun _ _ => r_move) ?_
  refine OW.val hS rfl rfl rfl (fun _ _ => r_nil rfl) ?_
  refine OW.val hS rfl rfl rfl (fun _ _ => r_field rfl fa51_1) ?_
  refine OW.val hS rfl rfl rfl (fun _ hS => r_loadA (m := 8) (f := fun j => .int .u8 ((s.lvls j : Nat) : Int)) rfl agg46 hS.2) ?_
  refine OW.act rfl rfl rfl (r_alloc zeroF46) hS1 ?_
  refine OW.val hS1 rfl rfl rfl (fun _ _ => r_assign) ?_
  refine OW.eff rfl rfl rfl (r_storeA (m := 8) (f := fun j => .int .u8 ((s.lvls j : Nat) : Int)) rfl rfl agg46 (fun _ _ => rfl) (Blk.new w1.drew 8 (fun _ => Value.int .u8 0) 46) (by decide)) hS2 ?_
  refine OW.nil ?_
  have hXP := hMP.rd (hMA.rd hX1.drew (by simp)) (by simpa using hXL)
  have hwl : w.heap.size ≤ w1.drew.heap.size := hM1.size
  have hMM := (hM1.drewR.none hMA).fresh hMP hwl
  have hL1 : Blk _ _ 8 (fun j => .int .u8 ((s.lvls j : Nat) : Int)) 46 := hL0.congr fun j hj => by rw [put_in _ _ (by omega)]; rfl
  obtain ⟨lb, hlb⟩ : ∃ lb, lb = w1.drew.heap.size := ⟨_, rfl⟩
  rw [← hlb] at hBP hXP hMM hL1 hHL hXL hwl ⊢
  refine CW.fresh [(0, .pointer (some ⟨hb, 12, none⟩)), (1, .int .u32 flags), (2, .pointer (some ⟨hb, 4, none⟩)), (6, .pointer (some ⟨xb, 0, none⟩)), (7, .int .i64 ((s.bufn : Nat) : Int)), (8, .pointer (some ⟨lb, 0, none⟩))] ⟨rfl, rfl, rfl, rfl, rfl, rfl, trivial⟩ (φ := (fun w' => Mod [hb] w w' ∧ Blk w' hb 8854 (hc b s) te ∧ Rd w' xb 0 64 .u32 (s.out flags K) ∧ Blk w' lb 8 (fun j => .int .u8 ((s.lvls j : Nat) : Int)) 46)) ⟨hMM, hBP, hXP, hL1⟩ ?_
  clear hS hS1 hS2 hM1 hB1 hX1 hMA hL0 hMP hBA hBP hXP hMM hL1 hlb w1 J
  rintro J w1 ⟨hM1, hB1, hX1, hL1⟩
  first | refine CW.seq (CW.region ?_) | refine CW.seq (CW.seq (CW.region ?_))
  refine LW.val rfl rfl (r_move) ?_
  refine LW.val rfl rfl (r_move) ?_
  refine LW.val rfl rfl (r_build0 zero46 Tryd.underlying46 sz5) ?_
  refine LW.val rfl rfl (r_nil rfl) ?_
  refine LW.val rfl rfl (r_field rfl fa51_2) ?_
  refine LW.eff rfl rfl (r_storeB (i := 21) rfl rfl one3 rfl hB1 (by decide)) ?_
  refine LW.val rfl rfl (r_nil rfl) ?_
  refine LW.val rfl rfl (r_field rfl fa51_1) ?_
  refine LW.eff rfl rfl (r_storeA (m := 8) (f := fun _ => .int .u8 0) rfl rfl agg46 (fun _ _ => rfl) (hB1.set (i := 21) (.int .i64 0) (by decide)) (by decide)) ?_
  refine LW.nil ?_
  have hB2 := (hB1.set (i := 21) (.int .i64 ((0 : Nat) : Int)) (by decide)).putC (o := 13) (m := 8) (f := fun _ => .int .u8 0) (by decide)
  rw [hc_setBufn, hc_clrLvl] at hB2
  have hMS := Mod.set w1 hb 21 (.int .i64 ((0 : Nat) : Int))
  have hMP := Mod.putC (w1.setCell ⟨hb, 21, none⟩ (.int .i64 ((0 : Nat) : Int))) hb 13 8 (fun _ => .int .u8 0)
  refine CW.fresh [(0, .pointer (some ⟨hb, 12, none⟩)), (1, .int .u32 flags), (2, .pointer (some ⟨hb, 4, none⟩)), (6, .pointer (some ⟨xb, 0, none⟩)), (7, .int .i64 ((s.bufn : Nat) : Int)), (8, .pointer (some ⟨lb, 0, none⟩))] ⟨rfl, rfl, rfl, rfl, rfl, rfl, trivial⟩ (φ := (fun w' => Mod [hb] w w' ∧ Blk w' hb 8854 (hc b (pshF s.lvls (s.out flags K) 0 (s.setBufn 0).clrLvl)) te ∧ Rd w' xb 0 64 .u32 (s.out flags K) ∧ Blk w' lb 8 (fun j => .int .u8 ((s.lvls j : Nat) : Int)) 46)) ⟨(hM1.old hMS (by simp)).old hMP (by simp), hB2, hMP.rd (hMS.rd hX1 (by simpa using Ne.symm hHX)) (by simpa using Ne.symm hHX), hMP.blk (hMS.blk hL1 (by simpa using Ne.symm hHL)) (by simpa using Ne.symm hHL)⟩ ?_
  clear hM1 hB1 hX1 hL1 hB2 hMS hMP w1 J
  rintro J w1 hP
  first | refine CW.seq (CW.region ?_) | refine CW.seq (CW.seq (CW.region ?_))
  refine LW.val rfl rfl (r_assign) ?_
  refine LW.nil ?_
  refine CW.block (CW.loop (fun q E w' => ∃ (i : Nat) (J : Env), i + q = s.bufn ∧ E = tab (α := Value) J [(0, .pointer (some ⟨hb, 12, none⟩)), (1, .int .u32 flags), (2, .pointer (some ⟨hb, 4, none⟩)), (6, .pointer (some ⟨xb, 0, none⟩)), (7, .int .i64 ((s.bufn : Nat) : Int)), (8, .pointer (some ⟨lb, 0, none⟩)), (9, .int .i64 ((i : Nat) : Int))] ∧ (fun w' => Mod [hb] w w' ∧ Blk w' hb 8854 (hc b (pshF s.lvls (s.out flags K) i (s.setBufn 0).clrLvl)) te ∧ Rd w' xb 0 64 .u32 (s.out flags K) ∧ Blk w' lb 8 (fun j => .int .u8 ((s.lvls j : Nat) : Int)) 46) w') s.bufn ?_ ?_)
  · exact ⟨0, _, by omega, (tab_of_agrees (α := Value) _ [(0, .pointer (some ⟨hb, 12, none⟩)), (1, .int .u32 flags), (2, .pointer (some ⟨hb, 4, none⟩)), (6, .pointer (some ⟨xb, 0, none⟩)), (7, .int .i64 ((s.bufn : Nat) : Int)), (8, .pointer (some ⟨lb, 0, none⟩)), (9, .int .i64 ((0 : Nat) : Int))] ⟨rfl, rfl, rfl, rfl, rfl, rfl, rfl, trivial⟩).symm, hP⟩
  · clear hP J
    rintro q E w1 ⟨i, J, hq, rfl, hM1, hB1, hX1, hL1⟩
    by_cases hlt : i < s.bufn
    · first | refine CW.seq (CW.region ?_) | refine CW.seq (CW.seq (CW.region ?_))
      refine LW.val rfl rfl (r_move) ?_
      refine LW.val rfl rfl (r_move) ?_
      refine LW.val rfl rfl (r_lssE rfl rfl (q := true) (decide_eq_true (by omega))) ?_
      refine LW.nil ?_
      first | refine CW.cond_t rfl (CW.skip ?_) | refine CW.seq (CW.cond_t rfl (CW.skip ?_))
      refine CW.seq (CW.block (CW.region ?_))
      have hbn := bufn_psh s.lvls (s.out flags K) (s.setBufn 0).clrLvl i
      refine LW.val rfl rfl (r_move) ?_
      refine LW.val rfl rfl (r_move) ?_
      refine LW.val rfl rfl (r_ix rfl rfl arr46 (by omega)) ?_
      refine LW.val rfl rfl (r_load (a := ⟨lb, 0 + i, none⟩) (v := .int .u8 ((s.lvls i : Nat) : Int)) rfl one5 (by rw [hL1.cell (by omega), Nat.zero_add])) ?_
      refine LW.val rfl rfl (r_addE rfl rfl (u8succ _)) ?_
      refine LW.val rfl rfl (r_move) ?_
      refine LW.call rfl rfl (e_call en35) ?_
      refine (pushl_any hb xb i ((s.lvls i + 1) % 256) b _ te (s.out flags K) w1 hB1 hX1 (Ne.symm hHX) (by omega) (Nat.mod_lt _ (by decide)) (ok_psh (ok_clr hs) rfl _ _ i (by omega)) (Nat.lt_of_le_of_lt hbn (by show 0 + i < 8; omega))).mono ?_
      rintro e w2 ⟨rfl, hM2, hB2⟩
      refine ⟨_, rfl, ?_⟩
      refine LW.nil (CW.region ?_)
      refine LW.val rfl rfl (r_move) ?_
      refine LW.val rfl rfl (r_addE rfl rfl (succ_i64 (by omega))) ?_
      refine LW.val rfl rfl (r_assign) ?_
      exact LW.nil ⟨q - 1, by omega, i + 1, _, by omega, (tab_of_agrees (α := Value) _ [(0, .pointer (some ⟨hb, 12, none⟩)), (1, .int .u32 flags), (2, .pointer (some ⟨hb, 4, none⟩)), (6, .pointer (some ⟨xb, 0, none⟩)), (7, .int .i64 ((s.bufn : Nat) : Int)), (8, .pointer (some ⟨lb, 0, none⟩)), (9, .int .i64 (((i + 1) : Nat) : Int))] ⟨rfl, rfl, rfl, rfl, rfl, rfl, rfl, trivial⟩).symm, hM1.old hM2 (by simp), hB2, hM2.rd hX1 (by simpa using Ne.symm hHX), hM2.blk hL1 (by simpa using Ne.symm hHL)⟩
    · have hi : i = s.bufn := by omega
      subst hi
      first | refine CW.seq (CW.region ?_) | refine CW.seq (CW.seq (CW.region ?_))
      refine LW.val rfl rfl (r_move) ?_
      refine LW.val rfl rfl (r_move) ?_
      refine LW.val rfl rfl (r_lssE rfl rfl (q := false) (decide_eq_false (by omega))) ?_
      refine LW.nil ?_
      first | refine CW.seq (CW.cond_f rfl (CW.exit (Or.inl ⟨rfl, ?_⟩))) | refine CW.cond_f rfl (CW.exit (Or.inl ⟨rfl, ?_⟩))
      exact ⟨_, RetV.none rfl, rfl, hM1, hB1⟩
set_option maxHeartbeats 2000000 in
theorem pushn_any (hb vb n : Nat) (b : Nat → Value) (s : CS) (te : TypeId) (cv : Nat → Int) (flags : Int) (K : Nat → Int) (w : World) (hB : Blk w hb 8854 (hc b s) te) (hV : Rd w vb 0 64 .u32 cv) (hne : vb ≠ hb) (hn : n ≤ 8) (hK : ∀ i, i < 8 → b (4 + i) = .int .u32 (K i)) (hs : s.ok) (h8 : s.bufn < 8) :
    Calls Tryd.prog 27 #[.pointer (some ⟨hb, 12, none⟩), .int .u8 0, .pointer (some ⟨vb, 0, none⟩), .int .i64 ((n : Nat) : Int), .int .u32 flags, .pointer (some ⟨hb, 4, none⟩)] w fun e w' => e = .returned (.tuple #[]) ∧ Mod [hb] w w' ∧ Blk w' hb 8854 (hc b (pushNF flags K cv s n)) te := by
  refine calls_of_CW (l := [_, _, _, _, _, _]) (N := 32) Tryd.func27 rfl rfl rfl ?_
  first | refine CW.seq (CW.region ?_) | refine CW.seq (CW.seq (CW.region ?_))
  refine LW.val rfl rfl (r_assign) ?_
  refine LW.nil ?_
  refine CW.block (CW.loop (fun q E w' => ∃ (i : Nat) (J : Env), i + q = n ∧ E = tab (α := Value) J [(0, .pointer (some ⟨hb, 12, none⟩)), (1, .int .u8 0), (2, .pointer (some ⟨vb, 0, none⟩)), (3, .int .i64 ((n : Nat) : Int)), (4, .int .u32 flags), (5, .pointer (some ⟨hb, 4, none⟩)), (12, .int .i64 ((i : Nat) : Int))] ∧ (fun w' => Mod [hb] w w' ∧ Blk w' hb 8854 (hc b (pushNF flags K cv s i)) te) w') n ?_ ?_)
  · exact ⟨0, _, by omega, (tab_of_agrees (α := Value) _ [(0, .pointer (some ⟨hb, 12, none⟩)), (1, .int .u8 0), (2, .pointer (some ⟨vb, 0, none⟩)), (3, .int .i64 ((n : Nat) : Int)), (4, .int .u32 flags), (5, .pointer (some ⟨hb, 4, none⟩)), (12, .int .i64 ((0 : Nat) : Int))] ⟨rfl, rfl, rfl, rfl, rfl, rfl, rfl, trivial⟩).symm, Mod.refl _ _, hB⟩
  · rintro q E w1 ⟨i, J, hq, rfl, hM1, hB1⟩
    by_cases hlt : i < n
    · first | refine CW.seq (CW.region ?_) | refine CW.seq (CW.seq (CW.region ?_))
      refine LW.val rfl rfl (r_move) ?_
      refine LW.val rfl rfl (r_move) ?_
      refine LW.val rfl rfl (r_lssE rfl rfl (q := true) (decide_eq_true (by omega))) ?_
      refine LW.nil ?_
      first | refine CW.cond_t rfl (CW.skip ?_) | refine CW.seq (CW.cond_t rfl (CW.skip ?_))
      have hok := ok_pushN hs h8 flags K cv i
      refine CW.seq (CW.block ?_)
      first | refine CW.seq (CW.region ?_) | refine CW.seq (CW.seq (CW.region ?_))
      refine LW.val rfl rfl (r_move) ?_
      refine LW.val rfl rfl (r_move) ?_
      refine LW.val rfl rfl (r_move) ?_
      refine LW.val rfl rfl (r_move) ?_
      refine LW.call rfl rfl (e_call en35) ?_
      refine (pushl_any hb vb i 0 b _ te cv w1 hB1 (hM1.rd hV (by simpa using hne)) hne (by omega) (by decide) hok.1 hok.2).mono ?_
      rintro e w2 ⟨rfl, hM2, hB2⟩
      refine ⟨_, rfl, ?_⟩
      have hok2 := ok_push hok.1 (l := 0) (by decide) cv i hok.2
      refine LW.nil ?_
      refine CW.block (CW.loop (fun m E w' => ∃ (s2 : CS) (J : Env), s2.wt = m ∧ s2.ok ∧ fl8 flags K s2 = pushNF flags K cv s (i + 1) ∧ E = tab (α := Value) J [(0, .pointer (some ⟨hb, 12, none⟩)), (1, .int .u8 0), (2, .pointer (some ⟨vb, 0, none⟩)), (3, .int .i64 ((n : Nat) : Int)), (4, .int .u32 flags), (5, .pointer (some ⟨hb, 4, none⟩)), (12, .int .i64 ((i : Nat) : Int))] ∧ (fun w' => Mod [hb] w w' ∧ Blk w' hb 8854 (hc b (s2)) te) w') (pushF (pushNF flags K cv s i) 0 cv i).wt ?_ ?_)
      · exact ⟨_, _, rfl, hok2, rfl, (tab_of_agrees (α := Value) _ [(0, .pointer (some ⟨hb, 12, none⟩)), (1, .int .u8 0), (2, .pointer (some ⟨vb, 0, none⟩)), (3, .int .i64 ((n : Nat) : Int)), (4, .int .u32 flags), (5, .pointer (some ⟨hb, 4, none⟩)), (12, .int .i64 ((i : Nat) : Int))] ⟨rfl, rfl, rfl, rfl, rfl, rfl, rfl, trivial⟩).symm, hM1.old hM2 (by simp), hB2⟩
      · clear hB2 hM2 w2 hok2 hB1 hM1 w1 J
        rintro m E w1 ⟨s2, J, hm, hok2, hfl, rfl, hM1, hB1⟩
        by_cases hf : s2.bufn = 8
        · first | refine CW.seq (CW.region ?_) | refine CW.seq (CW.seq (CW.region ?_))
          refine LW.val rfl rfl (r_move) ?_
          refine LW.val rfl rfl (r_nil rfl) ?_
          refine LW.val rfl rfl (r_field rfl fa51_2) ?_
          refine LW.val rfl rfl (r_load (a := ⟨hb, 21, none⟩) (v := .int .i64 ((s2.bufn : Nat) : Int)) rfl one3 (hB1.cell (by decide))) ?_
          refine LW.val rfl rfl (r_eqlE rfl rfl (q := true) ((eq8 s2.bufn).trans (decide_eq_true hf))) ?_
          refine LW.nil ?_
          first | refine CW.cond_t rfl (CW.skip ?_) | refine CW.seq (CW.cond_t rfl (CW.skip ?_))
          refine CW.block (CW.region ?_)
          refine LW.val rfl rfl (r_move) ?_
          refine LW.val rfl rfl (r_move) ?_
          refine LW.val rfl rfl (r_move) ?_
          refine LW.call rfl rfl (e_call en29) ?_
          refine (flush_any hb b s2 te flags K w1 hB1 hK hok2).mono ?_
          rintro e w2 ⟨rfl, hM2, hB2⟩
          refine ⟨_, rfl, ?_⟩
          have hw := wt_flush s2 flags K
          exact LW.nil ⟨(flushF s2 flags K).wt, by omega, _, _, rfl, ok_flush hok2 flags K, by rw [fl8, if_pos hf] at hfl; exact hfl, (tab_of_agrees (α := Value) _ [(0, .pointer (some ⟨hb, 12, none⟩)), (1, .int .u8 0), (2, .pointer (some ⟨vb, 0, none⟩)), (3, .int .i64 ((n : Nat) : Int)), (4, .int .u32 flags), (5, .pointer (some ⟨hb, 4, none⟩)), (12, .int .i64 ((i : Nat) : Int))] ⟨rfl, rfl, rfl, rfl, rfl, rfl, rfl, trivial⟩).symm, hM1.old hM2 (by simp), hB2⟩
        · first | refine CW.seq (CW.region ?_) | refine CW.seq (CW.seq (CW.region ?_))
          refine LW.val rfl rfl (r_move) ?_
          refine LW.val rfl rfl (r_nil rfl) ?_
          refine LW.val rfl rfl (r_field rfl fa51_2) ?_
          refine LW.val rfl rfl (r_load (a := ⟨hb, 21, none⟩) (v := .int .i64 ((s2.bufn : Nat) : Int)) rfl one3 (hB1.cell (by decide))) ?_
          refine LW.val rfl rfl (r_eqlE rfl rfl (q := false) ((eq8 s2.bufn).trans (decide_eq_false hf))) ?_
          refine LW.nil ?_
          first | refine CW.seq (CW.cond_f rfl (CW.exit (Or.inl ⟨rfl, ?_⟩))) | refine CW.cond_f rfl (CW.exit (Or.inl ⟨rfl, ?_⟩))
          rw [fl8, if_neg hf] at hfl
          subst hfl
          refine CW.region ?_
          refine LW.val rfl rfl (r_move) ?_
          refine LW.val rfl rfl (r_addE rfl rfl (succ_i64 (by omega))) ?_
          refine LW.val rfl rfl (r_assign) ?_
          exact LW.nil ⟨q - 1, by omega, i + 1, _, by omega, (tab_of_agrees (α := Value) _ [(0, .pointer (some ⟨hb, 12, none⟩)), (1, .int .u8 0), (2, .pointer (some ⟨vb, 0, none⟩)), (3, .int .i64 ((n : Nat) : Int)), (4, .int .u32 flags), (5, .pointer (some ⟨hb, 4, none⟩)), (12, .int .i64 (((i + 1) : Nat) : Int))] ⟨rfl, rfl, rfl, rfl, rfl, rfl, rfl, trivial⟩).symm, hM1, hB1⟩
    · have hi : i = n := by omega
      subst hi
      first | refine CW.seq (CW.region ?_) | refine CW.seq (CW.seq (CW.region ?_))
      refine LW.val rfl rfl (r_move) ?_
      refine LW.val rfl rfl (r_move) ?_
      refine LW.val rfl rfl (r_lssE rfl rfl (q := false) (decide_eq_false (by omega))) ?_
      refine LW.nil ?_
      first | refine CW.seq (CW.cond_f rfl (CW.exit (Or.inl ⟨rfl, ?_⟩))) | refine CW.cond_f rfl (CW.exit (Or.inl ⟨rfl, ?_⟩))
      exact ⟨_, RetV.none rfl, rfl, hM1, hB1⟩
end Go.Proofs.YtfaopfaghnefdaaDoor
