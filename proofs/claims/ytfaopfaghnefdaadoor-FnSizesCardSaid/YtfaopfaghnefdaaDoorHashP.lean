/- HashP and the two functions that hand on to it: n parents' chaining values, a column each. Conditions: left, right and key lie in other blocks than the answer; n is at most 8. -/
import Derived.Test.YtfaopfaghnefdaaDoorComp
import Derived.Test.YtfaopfaghnefdaaDoorChain
namespace Go.Proofs.YtfaopfaghnefdaaDoor
open Go
theorem en44 : Enters Tryd.prog 44 := ⟨_, Tryd.func44, by kernel_rfl, rfl⟩
theorem en46 : Enters Tryd.prog 46 := ⟨_, Tryd.func46, by kernel_rfl, rfl⟩
theorem en37 : Enters Tryd.prog 37 := ⟨_, Tryd.func37, by kernel_rfl, rfl⟩
theorem zeroF57 : ZeroIs Tryd.prog 57 16 (fun _ => .int .u32 0) := ⟨_, zero57, rfl⟩
theorem addc {k m : Nat} (h : k < 8) (hm : m ≤ 56) : IntKind.i64.wrap ((k : Int) + (m : Int)) = ((m + k : Nat) : Int) := by rw [wrap_i64 (by omega) (by omega)]; omega
/-- The first k columns told anew. -/
def hpC (c : Nat → Value) (o k : Nat) (g : Nat → Nat → Int) : Nat → Value := fun j => if o ≤ j ∧ j < o + 64 ∧ (j - o) % 8 < k then .int .u32 (g ((j - o) % 8) ((j - o) / 8)) else c j
theorem hpC_zero (c : Nat → Value) (o : Nat) (g : Nat → Nat → Int) : hpC c o 0 g = c := by funext j; exact if_neg (by omega)
theorem hpC_step (c : Nat → Value) (o k : Nat) (g : Nat → Nat → Int) (hk : k < 8) : stw (hpC c o k g) o k 8 (fun j => .int .u32 (g k j)) = hpC c o (k + 1) g := by
  funext j
  by_cases h : o + k ≤ j ∧ (j - o - k) % 8 = 0 ∧ (j - o - k) / 8 < 8
  · rw [stw, if_pos h, hpC, if_pos (by omega), show (j - o) % 8 = k by omega, show (j - o) / 8 = (j - o - k) / 8 by omega]
  · rw [stw_out _ _ _ _ _ h, hpC, hpC]
    by_cases h' : o ≤ j ∧ j < o + 64 ∧ (j - o) % 8 < k
    · rw [if_pos h', if_pos (by omega)]
    · rw [if_neg h', if_neg (by omega)]
theorem hpC_at (c : Nat → Value) (o m : Nat) (g : Nat → Nat → Int) {k j : Nat} (hk : k < m) (h8 : k < 8) (hj : j < 8) : hpC c o m g (o + (8 * j + k)) = .int .u32 (g k j) := by
  rw [hpC, if_pos (by omega), show (o + (8 * j + k) - o) % 8 = k by omega, show (o + (8 * j + k) - o) / 8 = j by omega]
/-- The block of a parent: the left column, then the right one. -/
def hpB (L R : Nat → Int) (k : Nat) : Nat → Int := fun j => if j < 8 then L (8 * j + k) else R (8 * (j - 8) + k)
def hpF (L R K : Nat → Int) (flags : Int) (k : Nat) : Nat → Int := compF K (hpB L R k) 0 64 flags
/-- One round, the loop's inside. -/
def hpPhi (w : World) (ob nb tb bb : Nat) (te : TypeId) (cO cT cB : Nat → Value) (w' : World) : Prop := Mod [ob] w w' ∧ Blk w' ob nb cO te ∧ Blk w' tb 16 cT 57 ∧ Blk w' bb 16 cB 57
set_option maxHeartbeats 4000000 in
theorem hashp_any (lb lo rb ro kb ko ob oo nb n : Nat) (c : Nat → Value) (te : TypeId) (L R K : Nat → Int) (flags : Int) (w : World) (hL : Rd w lb lo 64 .u32 L) (hR : Rd w rb ro 64 .u32 R) (hK : Rd w kb ko 8 .u32 K)
    (hl : lb ≠ ob) (hr : rb ≠ ob) (hk : kb ≠ ob) (hB : Blk w ob nb c te) (ho : oo + 64 ≤ nb) (hn : n ≤ 8) :
    Calls Tryd.prog 46 #[.pointer (some ⟨lb, lo, none⟩), .pointer (some ⟨rb, ro, none⟩), .int .u32 flags, .pointer (some ⟨kb, ko, none⟩), .pointer (some ⟨ob, oo, none⟩), .int .i64 ((n : Nat) : Int)] w fun e w' => e = .returned (.tuple #[]) ∧ Mod [ob] w w' ∧ Blk w' ob nb (hpC c oo n (hpF L R K flags)) te := by
  refine calls_of_CW (l := [_, _, _, _, _, _]) (N := 195) Tryd.func46 rfl rfl rfl ?_
  refine CW.seq (CW.region (LW.val rfl rfl (r_alloc zeroF57) (LW.nil ?_)))
  refine CW.seq (CW.region (LW.val rfl rfl (r_alloc zeroF57) (LW.nil ?_)))
  refine CW.seq (CW.region (LW.val rfl rfl r_assign (LW.nil ?_)))
  obtain ⟨tb, htb⟩ : ∃ tb, tb = w.heap.size := ⟨_, rfl⟩
  obtain ⟨bb, hbb⟩ : ∃ bb, bb = w.heap.size + 1 := ⟨_, rfl⟩
  have hTB : tb ≠ bb := by omega
  have hOT : ob ≠ tb := hB.ne (by omega)
  have hOB : ob ≠ bb := hB.ne (by omega)
  have h1 : Mod [ob] w (w.alloc (.cells (Array.ofFn (n := 16) fun i => (fun _ => Value.int .u32 0) i.val) 57)) := (Mod.refl _ _).none (Mod.alloc _ _)
  have hT1 := Blk.new w 16 (fun _ => Value.int .u32 0) 57
  have hB1 := (Mod.alloc w (.cells (Array.ofFn (n := 16) fun i => (fun _ => Value.int .u32 0) i.val) 57)).blk hB (by simp)
  obtain ⟨w1, hw1⟩ : ∃ w1, w1 = w.alloc (.cells (Array.ofFn (n := 16) fun i => (fun _ => Value.int .u32 0) i.val) 57) := ⟨_, rfl⟩
  have hs1 : w1.heap.size = w.heap.size + 1 := by rw [hw1, size_alloc]
  rw [← hw1] at h1 hT1 hB1 ⊢
  rw [← htb] at hT1 ⊢
  have h2 : Mod [ob] w (w1.alloc (.cells (Array.ofFn (n := 16) fun i => (fun _ => Value.int .u32 0) i.val) 57)) := h1.none (Mod.alloc _ _)
  have hP : hpPhi w ob nb tb bb te (hpC c oo 0 (hpF L R K flags)) (fun _ => .int .u32 0) (fun _ => .int .u32 0) (w1.alloc (.cells (Array.ofFn (n := 16) fun i => (fun _ => Value.int .u32 0) i.val) 57)) :=
    ⟨h2, by rw [hpC_zero]; exact (Mod.alloc w1 _).blk hB1 (by simp), (Mod.alloc w1 _).blk hT1 (by simp), by rw [hbb, ← hs1]; exact Blk.new w1 16 (fun _ => Value.int .u32 0) 57⟩
  rw [hs1, ← hbb]
  obtain ⟨w2, hw2⟩ : ∃ w2, w2 = w1.alloc (.cells (Array.ofFn (n := 16) fun i => (fun _ => Value.int .u32 0) i.val) 57) := ⟨_, rfl⟩
  rw [← hw2] at hP ⊢
  clear hw1 hw2 h1 hT1 hB1 hs1 h2
  refine CW.block (CW.loop (fun q E w' => ∃ (k : Nat) (J : Env) (cT cB : Nat → Value), k + q = n ∧ E = tab (α := Value) J [(0, .pointer (some ⟨lb, lo, none⟩)), (1, .pointer (some ⟨rb, ro, none⟩)), (2, .int .u32 flags), (3, .pointer (some ⟨kb, ko, none⟩)), (4, .pointer (some ⟨ob, oo, none⟩)), (5, .int .i64 ((n : Nat) : Int)), (12, .pointer (some ⟨tb, 0, none⟩)), (13, .pointer (some ⟨bb, 0, none⟩)), (14, .int .i64 ((k : Nat) : Int))] ∧ hpPhi w ob nb tb bb te (hpC c oo k (hpF L R K flags)) cT cB w') n ?_ ?_)
  · exact ⟨0, _, _, _, by omega, (tab_of_agrees (α := Value) _ [(0, .pointer (some ⟨lb, lo, none⟩)), (1, .pointer (some ⟨rb, ro, none⟩)), (2, .int .u32 flags), (3, .pointer (some ⟨kb, ko, none⟩)), (4, .pointer (some ⟨ob, oo, none⟩)), (5, .int .i64 ((n : Nat) : Int)), (12, .pointer (some ⟨tb, 0, none⟩)), (13, .pointer (some ⟨bb, 0, none⟩)), (14, .int .i64 ((0 : Nat) : Int))] ⟨rfl, rfl, rfl, rfl, rfl, rfl, rfl, rfl, rfl, trivial⟩).symm, hP⟩
  · rintro q E w' ⟨k, J, cT, cB, hkn, rfl, hM, hO, hT, hBB⟩
    by_cases hlt : k < n
    · have hk8 : k < 8 := by omega
      refine CW.seq (CW.seq (CW.region ?_))
      refine LW.val rfl rfl (r_move) ?_
      refine LW.val rfl rfl (r_move) ?_
      refine LW.val rfl rfl (r_lssE rfl rfl (q := true) (decide_eq_true (by omega))) ?_
      refine LW.val rfl rfl (r_move) ?_
      refine LW.gval (gyes rfl rfl rfl rfl rfl) rfl (r_move) ?_
      refine LW.gval (gyes rfl rfl rfl rfl rfl) rfl (r_lssE rfl rfl (q := true) (decide_eq_true (by omega))) ?_
      refine LW.val rfl rfl (r_pick rfl) ?_
      refine LW.nil (CW.cond_t rfl (CW.skip ?_))
      refine CW.seq (CW.block ?_)
      have hBB0 : Blk w' bb 16 (put cB 0 0 (fun j => .int .u32 (hpB L R k j))) 57 := by rw [put_zero]; exact hBB
      clear hBB
      obtain ⟨w0, hw0⟩ : ∃ w0, w0 = w' := ⟨_, rfl⟩
      rw [← hw0] at hM hO hT hBB0 ⊢
      clear hw0
      refine CW.seq (CW.region ?_)
      refine LW.val rfl rfl (r_move) ?_
      refine LW.val rfl rfl (r_move) ?_
      refine LW.val rfl rfl (r_addE rfl rfl (addc (m := 8 * 0) hk8 (by decide))) ?_
      refine LW.val rfl rfl (r_nil rfl) ?_
      refine LW.val rfl rfl (r_ix rfl rfl arr47 (by omega)) ?_
      refine LW.val rfl rfl (r_load rfl one43 (hM.rd hL (by simpa using hl) (8 * 0 + k) (by omega))) ?_
      refine LW.val rfl rfl (r_index_arr rfl rfl arr57 (by decide) (by decide)) ?_
      refine LW.eff rfl rfl (r_storeB rfl rfl one43 rfl hBB0 (by decide)) ?_
      refine LW.nil (CW.fresh [(0, .pointer (some ⟨lb, lo, none⟩)), (1, .pointer (some ⟨rb, ro, none⟩)), (2, .int .u32 flags), (3, .pointer (some ⟨kb, ko, none⟩)), (4, .pointer (some ⟨ob, oo, none⟩)), (5, .int .i64 ((n : Nat) : Int)), (12, .pointer (some ⟨tb, 0, none⟩)), (13, .pointer (some ⟨bb, 0, none⟩)), (14, .int .i64 ((k : Nat) : Int))] ⟨rfl, rfl, rfl, rfl, rfl, rfl, rfl, rfl, rfl, trivial⟩ (φ := hpPhi w ob nb tb bb te (hpC c oo k (hpF L R K flags)) cT (put cB 0 1 (fun j => .int .u32 (hpB L R k j)))) ⟨hM.fresh (Mod.set _ bb _ _) (by omega), (Mod.set _ bb _ _).blk hO (by simpa using hOB), (Mod.set _ bb _ _).blk hT (by simpa using hTB), (congrArg (fun c => Blk _ bb 16 c 57) (put_snoc cB 0 0 (fun j => .int .u32 (hpB L R k j)) (.int .u32 (L (8 * 0 + k))) rfl)).mp (hBB0.set (i := 0 + 0) (.int .u32 (L (8 * 0 + k))) (by decide))⟩ ?_)
      clear hM hO hT hBB0 w0 J
      rintro J w0 ⟨hM, hO, hT, hBB1⟩
      refine CW.seq (CW.region ?_)
      refine LW.val rfl rfl (r_move) ?_
      refine LW.val rfl rfl (r_move) ?_
      refine LW.val rfl rfl (r_addE rfl rfl (addc (m := 8 * 1) hk8 (by decide))) ?_
      refine LW.val rfl rfl (r_nil rfl) ?_
      refine LW.val rfl rfl (r_ix rfl rfl arr47 (by omega)) ?_
      refine LW.val rfl rfl (r_load rfl one43 (hM.rd hL (by simpa using hl) (8 * 1 + k) (by omega))) ?_
      refine LW.val rfl rfl (r_index_arr rfl rfl arr57 (by decide) (by decide)) ?_
      refine LW.eff rfl rfl (r_storeB rfl rfl one43 rfl hBB1 (by decide)) ?_
      refine LW.nil (CW.fresh [(0, .pointer (some ⟨lb, lo, none⟩)), (1, .pointer (some ⟨rb, ro, none⟩)), (2, .int .u32 flags), (3, .pointer (some ⟨kb, ko, none⟩)), (4, .pointer (some ⟨ob, oo, none⟩)), (5, .int .i64 ((n : Nat) : Int)), (12, .pointer (some ⟨tb, 0, none⟩)), (13, .pointer (some ⟨bb, 0, none⟩)), (14, .int .i64 ((k : Nat) : Int))] ⟨rfl, rfl, rfl, rfl, rfl, rfl, rfl, rfl, rfl, trivial⟩ (φ := hpPhi w ob nb tb bb te (hpC c oo k (hpF L R K flags)) cT (put cB 0 2 (fun j => .int .u32 (hpB L R k j)))) ⟨hM.fresh (Mod.set _ bb _ _) (by omega), (Mod.set _ bb _ _).blk hO (by simpa using hOB), (Mod.set _ bb _ _).blk hT (by simpa using hTB), (congrArg (fun c => Blk _ bb 16 c 57) (put_snoc cB 0 1 (fun j => .int .u32 (hpB L R k j)) (.int .u32 (L (8 * 1 + k))) rfl)).mp (hBB1.set (i := 0 + 1) (.int .u32 (L (8 * 1 + k))) (by decide))⟩ ?_)
      clear hM hO hT hBB1 w0 J
      rintro J w0 ⟨hM, hO, hT, hBB2⟩
      refine CW.seq (CW.region ?_)
      refine LW.val rfl rfl (r_move) ?_
      refine LW.val rfl rfl (r_move) ?_
      refine LW.val rfl rfl (r_addE rfl rfl (addc (m := 8 * 2) hk8 (by decide))) ?_
      refine LW.val rfl rfl (r_nil rfl) ?_
      refine LW.val rfl rfl (r_ix rfl rfl arr47 (by omega)) ?_
      refine LW.val rfl rfl (r_load rfl one43 (hM.rd hL (by simpa using hl) (8 * 2 + k) (by omega))) ?_
      refine LW.val rfl rfl (r_index_arr rfl rfl arr57 (by decide) (by decide)) ?_
      refine LW.eff rfl rfl (r_storeB rfl rfl one43 rfl hBB2 (by decide)) ?_
      refine LW.nil (CW.fresh [(0, .pointer (some ⟨lb, lo, none⟩)), (1, .pointer (some ⟨rb, ro, none⟩)), (2, .int .u32 flags), (3, .pointer (some ⟨kb, ko, none⟩)), (4, .pointer (some ⟨ob, oo, none⟩)), (5, .int .i64 ((n : Nat) : Int)), (12, .pointer (some ⟨tb, 0, none⟩)), (13, .pointer (some ⟨bb, 0, none⟩)), (14, .int .i64 ((k : Nat) : Int))] ⟨rfl, rfl, rfl, rfl, rfl, rfl, rfl, rfl, rfl, trivial⟩ (φ := hpPhi w ob nb tb bb te (hpC c oo k (hpF L R K flags)) cT (put cB 0 3 (fun j => .int .u32 (hpB L R k j)))) ⟨hM.fresh (Mod.set _ bb _ _) (by omega), (Mod.set _ bb _ _).blk hO (by simpa using hOB), (Mod.set _ bb _ _).blk hT (by simpa using hTB), (congrArg (fun c => Blk _ bb 16 c 57) (put_snoc cB 0 2 (fun j => .int .u32 (hpB L R k j)) (.int .u32 (L (8 * 2 + k))) rfl)).mp (hBB2.set (i := 0 + 2) (.int .u32 (L (8 * 2 + k))) (by decide))⟩ ?_)
      clear hM hO hT hBB2 w0 J
      rintro J w0 ⟨hM, hO, hT, hBB3⟩
      refine CW.seq (CW.region ?_)
      refine LW.val rfl rfl (r_move) ?_
      refine LW.val rfl rfl (r_move) ?_
      refine LW.val rfl rfl (r_addE rfl rfl (addc (m := 8 * 3) hk8 (by decide))) ?_
      refine LW.val rfl rfl (r_nil rfl) ?_
      refine LW.val rfl rfl (r_ix rfl rfl arr47 (by omega)) ?_
      refine LW.val rfl rfl (r_load rfl one43 (hM.rd hL (by simpa using hl) (8 * 3 + k) (by omega))) ?_
      refine LW.val rfl rfl (r_index_arr rfl rfl arr57 (by decide) (by decide)) ?_
      refine LW.eff rfl rfl (r_storeB rfl rfl one43 rfl hBB3 (by decide)) ?_
      refine LW.nil (CW.fresh [(0, .pointer (some ⟨lb, lo, none⟩)), (1, .pointer (some ⟨rb, ro, none⟩)), (2, .int .u32 flags), (3, .pointer (some ⟨kb, ko, none⟩)), (4, .pointer (some ⟨ob, oo, none⟩)), (5, .int .i64 ((n : Nat) : Int)), (12, .pointer (some ⟨tb, 0, none⟩)), (13, .pointer (some ⟨bb, 0, none⟩)), (14, .int .i64 ((k : Nat) : Int))] ⟨rfl, rfl, rfl, rfl, rfl, rfl, rfl, rfl, rfl, trivial⟩ (φ := hpPhi w ob nb tb bb te (hpC c oo k (hpF L R K flags)) cT (put cB 0 4 (fun j => .int .u32 (hpB L R k j)))) ⟨hM.fresh (Mod.set _ bb _ _) (by omega), (Mod.set _ bb _ _).blk hO (by simpa using hOB), (Mod.set _ bb _ _).blk hT (by simpa using hTB), (congrArg (fun c => Blk _ bb 16 c 57) (put_snoc cB 0 3 (fun j => .int .u32 (hpB L R k j)) (.int .u32 (L (8 * 3 + k))) rfl)).mp (hBB3.set (i := 0 + 3) (.int .u32 (L (8 * 3 + k))) (by decide))⟩ ?_)
      clear hM hO hT hBB3 w0 J
      rintro J w0 ⟨hM, hO, hT, hBB4⟩
      refine CW.seq (CW.region ?_)
      refine LW.val rfl rfl (r_move) ?_
      refine LW.val rfl rfl (r_move) ?_
      refine LW.val rfl rfl (r_addE rfl rfl (addc (m := 8 * 4) hk8 (by decide))) ?_
      refine LW.val rfl rfl (r_nil rfl) ?_
      refine LW.val rfl rfl (r_ix rfl rfl arr47 (by omega)) ?_
      refine LW.val rfl rfl (r_load rfl one43 (hM.rd hL (by simpa using hl) (8 * 4 + k) (by omega))) ?_
      refine LW.val rfl rfl (r_index_arr rfl rfl arr57 (by decide) (by decide)) ?_
      refine LW.eff rfl rfl (r_storeB rfl rfl one43 rfl hBB4 (by decide)) ?_
      refine LW.nil (CW.fresh [(0, .pointer (some ⟨lb, lo, none⟩)), (1, .pointer (some ⟨rb, ro, none⟩)), (2, .int .u32 flags), (3, .pointer (some ⟨kb, ko, none⟩)), (4, .pointer (some ⟨ob, oo, none⟩)), (5, .int .i64 ((n : Nat) : Int)), (12, .pointer (some ⟨tb, 0, none⟩)), (13, .pointer (some ⟨bb, 0, none⟩)), (14, .int .i64 ((k : Nat) : Int))] ⟨rfl, rfl, rfl, rfl, rfl, rfl, rfl, rfl, rfl, trivial⟩ (φ := hpPhi w ob nb tb bb te (hpC c oo k (hpF L R K flags)) cT (put cB 0 5 (fun j => .int .u32 (hpB L R k j)))) ⟨hM.fresh (Mod.set _ bb _ _) (by omega), (Mod.set _ bb _ _).blk hO (by simpa using hOB), (Mod.set _ bb _ _).blk hT (by simpa using hTB), (congrArg (fun c => Blk _ bb 16 c 57) (put_snoc cB 0 4 (fun j => .int .u32 (hpB L R k j)) (.int .u32 (L (8 * 4 + k))) rfl)).mp (hBB4.set (i := 0 + 4) (.int .u32 (L (8 * 4 + k))) (by decide))⟩ ?_)
      clear hM hO hT hBB4 w0 J
      rintro J w0 ⟨hM, hO, hT, hBB5⟩
      refine CW.seq (CW.region ?_)
      refine LW.val rfl rfl (r_move) ?_
      refine LW.val rfl rfl (r_move) ?_
      refine LW.val rfl rfl (r_addE rfl rfl (addc (m := 8 * 5) hk8 (by decide))) ?_
      refine LW.val rfl rfl (r_nil rfl) ?_
      refine LW.val rfl rfl (r_ix rfl rfl arr47 (by omega)) ?_
      refine LW.val rfl rfl (r_load rfl one43 (hM.rd hL (by simpa using hl) (8 * 5 + k) (by omega))) ?_
      refine LW.val rfl rfl (r_index_arr rfl rfl arr57 (by decide) (by decide)) ?_
      refine LW.eff rfl rfl (r_storeB rfl rfl one43 rfl hBB5 (by decide)) ?_
      refine LW.nil (CW.fresh [(0, .pointer (some ⟨lb, lo, none⟩)), (1, .pointer (some ⟨rb, ro, none⟩)), (2, .int .u32 flags), (3, .pointer (some ⟨kb, ko, none⟩)), (4, .pointer (some ⟨ob, oo, none⟩)), (5, .int .i64 ((n : Nat) : Int)), (12, .pointer (some ⟨tb, 0, none⟩)), (13, .pointer (some ⟨bb, 0, none⟩)), (14, .int .i64 ((k : Nat) : Int))] ⟨rfl, rfl, rfl, rfl, rfl, rfl, rfl, rfl, rfl, trivial⟩ (φ := hpPhi w ob nb tb bb te (hpC c oo k (hpF L R K flags)) cT (put cB 0 6 (fun j => .int .u32 (hpB L R k j)))) ⟨hM.fresh (Mod.set _ bb _ _) (by omega), (Mod.set _ bb _ _).blk hO (by simpa using hOB), (Mod.set _ bb _ _).blk hT (by simpa using hTB), (congrArg (fun c => Blk _ bb 16 c 57) (put_snoc cB 0 5 (fun j => .int .u32 (hpB L R k j)) (.int .u32 (L (8 * 5 + k))) rfl)).mp (hBB5.set (i := 0 + 5) (.int .u32 (L (8 * 5 + k))) (by decide))⟩ ?_)
      clear hM hO hT hBB5 w0 J
      rintro J w0 ⟨hM, hO, hT, hBB6⟩
      refine CW.seq (CW.region ?_)
      refine LW.val rfl rfl (r_move) ?_
      refine LW.val rfl rfl (r_move) ?_
      refine LW.val rfl rfl (r_addE rfl rfl (addc (m := 8 * 6) hk8 (by decide))) ?_
      refine LW.val rfl rfl (r_nil rfl) ?_
      refine LW.val rfl rfl (r_ix rfl rfl arr47 (by omega)) ?_
      refine LW.val rfl rfl (r_load rfl one43 (hM.rd hL (by simpa using hl) (8 * 6 + k) (by omega))) ?_
      refine LW.val rfl rfl (r_index_arr rfl rfl arr57 (by decide) (by decide)) ?_
      refine LW.eff rfl rfl (r_storeB rfl rfl one43 rfl hBB6 (by decide)) ?_
      refine LW.nil (CW.fresh [(0, .pointer (some ⟨lb, lo, none⟩)), (1, .pointer (some ⟨rb, ro, none⟩)), (2, .int .u32 flags), (3, .pointer (some ⟨kb, ko, none⟩)), (4, .pointer (some ⟨ob, oo, none⟩)), (5, .int .i64 ((n : Nat) : Int)), (12, .pointer (some ⟨tb, 0, none⟩)), (13, .pointer (some ⟨bb, 0, none⟩)), (14, .int .i64 ((k : Nat) : Int))] ⟨rfl, rfl, rfl, rfl, rfl, rfl, rfl, rfl, rfl, trivial⟩ (φ := hpPhi w ob nb tb bb te (hpC c oo k (hpF L R K flags)) cT (put cB 0 7 (fun j => .int .u32 (hpB L R k j)))) ⟨hM.fresh (Mod.set _ bb _ _) (by omega), (Mod.set _ bb _ _).blk hO (by simpa using hOB), (Mod.set _ bb _ _).blk hT (by simpa using hTB), (congrArg (fun c => Blk _ bb 16 c 57) (put_snoc cB 0 6 (fun j => .int .u32 (hpB L R k j)) (.int .u32 (L (8 * 6 + k))) rfl)).mp (hBB6.set (i := 0 + 6) (.int .u32 (L (8 * 6 + k))) (by decide))⟩ ?_)
      clear hM hO hT hBB6 w0 J
      rintro J w0 ⟨hM, hO, hT, hBB7⟩
      refine CW.seq (CW.region ?_)
      refine LW.val rfl rfl (r_move) ?_
      refine LW.val rfl rfl (r_move) ?_
      refine LW.val rfl rfl (r_addE rfl rfl (addc (m := 8 * 7) hk8 (by decide))) ?_
      refine LW.val rfl rfl (r_nil rfl) ?_
      refine LW.val rfl rfl (r_ix rfl rfl arr47 (by omega)) ?_
      refine LW.val rfl rfl (r_load rfl one43 (hM.rd hL (by simpa using hl) (8 * 7 + k) (by omega))) ?_
      refine LW.val rfl rfl (r_index_arr rfl rfl arr57 (by decide) (by decide)) ?_
      refine LW.eff rfl rfl (r_storeB rfl rfl one43 rfl hBB7 (by decide)) ?_
      refine LW.nil (CW.fresh [(0, .pointer (some ⟨lb, lo, none⟩)), (1, .pointer (some ⟨rb, ro, none⟩)), (2, .int .u32 flags), (3, .pointer (some ⟨kb, ko, none⟩)), (4, .pointer (some ⟨ob, oo, none⟩)), (5, .int .i64 ((n : Nat) : Int)), (12, .pointer (some ⟨tb, 0, none⟩)), (13, .pointer (some ⟨bb, 0, none⟩)), (14, .int .i64 ((k : Nat) : Int))] ⟨rfl, rfl, rfl, rfl, rfl, rfl, rfl, rfl, rfl, trivial⟩ (φ := hpPhi w ob nb tb bb te (hpC c oo k (hpF L R K flags)) cT (put cB 0 8 (fun j => .int .u32 (hpB L R k j)))) ⟨hM.fresh (Mod.set _ bb _ _) (by omega), (Mod.set _ bb _ _).blk hO (by simpa using hOB), (Mod.set _ bb _ _).blk hT (by simpa using hTB), (congrArg (fun c => Blk _ bb 16 c 57) (put_snoc cB 0 7 (fun j => .int .u32 (hpB L R k j)) (.int .u32 (L (8 * 7 + k))) rfl)).mp (hBB7.set (i := 0 + 7) (.int .u32 (L (8 * 7 + k))) (by decide))⟩ ?_)
      clear hM hO hT hBB7 w0 J
      rintro J w0 ⟨hM, hO, hT, hBB8⟩
      refine CW.seq (CW.region ?_)
      refine LW.val rfl rfl (r_move) ?_
      refine LW.val rfl rfl (r_move) ?_
      refine LW.val rfl rfl (r_addE rfl rfl (addc (m := 8 * 0) hk8 (by decide))) ?_
      refine LW.val rfl rfl (r_nil rfl) ?_
      refine LW.val rfl rfl (r_ix rfl rfl arr47 (by omega)) ?_
      refine LW.val rfl rfl (r_load rfl one43 (hM.rd hR (by simpa using hr) (8 * 0 + k) (by omega))) ?_
      refine LW.val rfl rfl (r_index_arr rfl rfl arr57 (by decide) (by decide)) ?_
      refine LW.eff rfl rfl (r_storeB rfl rfl one43 rfl hBB8 (by decide)) ?_
      refine LW.nil (CW.fresh [(0, .pointer (some ⟨lb, lo, none⟩)), (1, .pointer (some ⟨rb, ro, none⟩)), (2, .int .u32 flags), (3, .pointer (some ⟨kb, ko, none⟩)), (4, .pointer (some ⟨ob, oo, none⟩)), (5, .int .i64 ((n : Nat) : Int)), (12, .pointer (some ⟨tb, 0, none⟩)), (13, .pointer (some ⟨bb, 0, none⟩)), (14, .int .i64 ((k : Nat) : Int))] ⟨rfl, rfl, rfl, rfl, rfl, rfl, rfl, rfl, rfl, trivial⟩ (φ := hpPhi w ob nb tb bb te (hpC c oo k (hpF L R K flags)) cT (put cB 0 9 (fun j => .int .u32 (hpB L R k j)))) ⟨hM.fresh (Mod.set _ bb _ _) (by omega), (Mod.set _ bb _ _).blk hO (by simpa using hOB), (Mod.set _ bb _ _).blk hT (by simpa using hTB), (congrArg (fun c => Blk _ bb 16 c 57) (put_snoc cB 0 8 (fun j => .int .u32 (hpB L R k j)) (.int .u32 (R (8 * 0 + k))) rfl)).mp (hBB8.set (i := 0 + 8) (.int .u32 (R (8 * 0 + k))) (by decide))⟩ ?_)
      clear hM hO hT hBB8 w0 J
      rintro J w0 ⟨hM, hO, hT, hBB9⟩
      refine CW.seq (CW.region ?_)
      refine LW.val rfl rfl (r_move) ?_
      refine LW.val rfl rfl (r_move) ?_
      refine LW.val rfl rfl (r_addE rfl rfl (addc (m := 8 * 1) hk8 (by decide))) ?_
      refine LW.val rfl rfl (r_nil rfl) ?_
      refine LW.val rfl rfl (r_ix rfl rfl arr47 (by omega)) ?_
      refine LW.val rfl rfl (r_load rfl one43 (hM.rd hR (by simpa using hr) (8 * 1 + k) (by omega))) ?_
      refine LW.val rfl rfl (r_index_arr rfl rfl arr57 (by decide) (by decide)) ?_
      refine LW.eff rfl rfl (r_storeB rfl rfl one43 rfl hBB9 (by decide)) ?_
      refine LW.nil (CW.fresh [(0, .pointer (some ⟨lb, lo, none⟩)), (1, .pointer (some ⟨rb, ro, none⟩)), (2, .int .u32 flags), (3, .pointer (some ⟨kb, ko, none⟩)), (4, .pointer (some ⟨ob, oo, none⟩)), (5, .int .i64 ((n : Nat) : Int)), (12, .pointer (some ⟨tb, 0, none⟩)), (13, .pointer (some ⟨bb, 0, none⟩)), (14, .int .i64 ((k : Nat) : Int))] ⟨rfl, rfl, rfl, rfl, rfl, rfl, rfl, rfl, rfl, trivial⟩ (φ := hpPhi w ob nb tb bb te (hpC c oo k (hpF L R K flags)) cT (put cB 0 10 (fun j => .int .u32 (hpB L R k j)))) ⟨hM.fresh (Mod.set _ bb _ _) (by omega), (Mod.set _ bb _ _).blk hO (by simpa using hOB), (Mod.set _ bb _ _).blk hT (by simpa using hTB), (congrArg (fun c => Blk _ bb 16 c 57) (put_snoc cB 0 9 (fun j => .int .u32 (hpB L R k j)) (.int .u32 (R (8 * 1 + k))) rfl)).mp (hBB9.set (i := 0 + 9) (.int .u32 (R (8 * 1 + k))) (by decide))⟩ ?_)
      clear hM hO hT hBB9 w0 J
      rintro J w0 ⟨hM, hO, hT, hBB10⟩
      refine CW.seq (CW.region ?_)
      refine LW.val rfl rfl (r_move) ?_
      refine LW.val rfl rfl (r_move) ?_
      refine LW.val rfl rfl (r_addE rfl rfl (addc (m := 8 * 2) hk8 (by decide))) ?_
      refine LW.val rfl rfl (r_nil rfl) ?_
      refine LW.val rfl rfl (r_ix rfl rfl arr47 (by omega)) ?_
      refine LW.val rfl rfl (r_load rfl one43 (hM.rd hR (by simpa using hr) (8 * 2 + k) (by omega))) ?_
      refine LW.val rfl rfl (r_index_arr rfl rfl arr57 (by decide) (by decide)) ?_
      refine LW.eff rfl rfl (r_storeB rfl rfl one43 rfl hBB10 (by decide)) ?_
      refine LW.nil (CW.fresh [(0, .pointer (some ⟨lb, lo, none⟩)), (1, .pointer (some ⟨rb, ro, none⟩)), (2, .int .u32 flags), (3, .pointer (some ⟨kb, ko, none⟩)), (4, .pointer (some ⟨ob, oo, none⟩)), (5, .int .i64 ((n : Nat) : Int)), (12, .pointer (some ⟨tb, 0, none⟩)), (13, .pointer (some ⟨bb, 0, none⟩)), (14, .int .i64 ((k : Nat) : Int))] ⟨rfl, rfl, rfl, rfl, rfl, rfl, rfl, rfl, rfl, trivial⟩ (φ := hpPhi w ob nb tb bb te (hpC c oo k (hpF L R K flags)) cT (put cB 0 11 (fun j => .int .u32 (hpB L R k j)))) ⟨hM.fresh (Mod.set _ bb _ _) (by omega), (Mod.set _ bb _ _).blk hO (by simpa using hOB), (Mod.set _ bb _ _).blk hT (by simpa using hTB), (congrArg (fun c => Blk _ bb 16 c 57) (put_snoc cB 0 10 (fun j => .int .u32 (hpB L R k j)) (.int .u32 (R (8 * 2 + k))) rfl)).mp (hBB10.set (i := 0 + 10) (.int .u32 (R (8 * 2 + k))) (by decide))⟩ ?_)
      clear hM hO hT hBB10 w0 J
      rintro J w0 ⟨hM, hO, hT, hBB11⟩
      refine CW.seq (CW.region ?_)
      refine LW.val rfl rfl (r_move) ?_
      refine LW.val rfl rfl (r_move) ?_
      refine LW.val rfl rfl (r_addE rfl rfl (addc (m := 8 * 3) hk8 (by decide))) ?_
      refine LW.val rfl rfl (r_nil rfl) ?_
      refine LW.val rfl rfl (r_ix rfl rfl arr47 (by omega)) ?_
      refine LW.val rfl rfl (r_load rfl one43 (hM.rd hR (by simpa using hr) (8 * 3 + k) (by omega))) ?_
      refine LW.val rfl rfl (r_index_arr rfl rfl arr57 (by decide) (by decide)) ?_
      refine LW.eff rfl rfl (r_storeB rfl rfl one43 rfl hBB11 (by decide)) ?_
      refine LW.nil (CW.fresh [(0, .pointer (some ⟨lb, lo, none⟩)), (1, .pointer (some ⟨rb, ro, none⟩)), (2, .int .u32 flags), (3, .pointer (some ⟨kb, ko, none⟩)), (4, .pointer (some ⟨ob, oo, none⟩)), (5, .int .i64 ((n : Nat) : Int)), (12, .pointer (some ⟨tb, 0, none⟩)), (13, .pointer (some ⟨bb, 0, none⟩)), (14, .int .i64 ((k : Nat) : Int))] ⟨rfl, rfl, rfl, rfl, rfl, rfl, rfl, rfl, rfl, trivial⟩ (φ := hpPhi w ob nb tb bb te (hpC c oo k (hpF L R K flags)) cT (put cB 0 12 (fun j => .int .u32 (hpB L R k j)))) ⟨hM.fresh (Mod.set _ bb _ _) (by omega), (Mod.set _ bb _ _).blk hO (by simpa using hOB), (Mod.set _ bb _ _).blk hT (by simpa using hTB), (congrArg (fun c => Blk _ bb 16 c 57) (put_snoc cB 0 11 (fun j => .int .u32 (hpB L R k j)) (.int .u32 (R (8 * 3 + k))) rfl)).mp (hBB11.set (i := 0 + 11) (.int .u32 (R (8 * 3 + k))) (by decide))⟩ ?_)
      clear hM hO hT hBB11 w0 J
      rintro J w0 ⟨hM, hO, hT, hBB12⟩
      refine CW.seq (CW.region ?_)
      refine LW.val rfl rfl (r_move) ?_
      refine LW.val rfl rfl (r_move) ?_
      refine LW.val rfl rfl (r_addE rfl rfl (addc (m := 8 * 4) hk8 (by decide))) ?_
      refine LW.val rfl rfl (r_nil rfl) ?_
      refine LW.val rfl rfl (r_ix rfl rfl arr47 (by omega)) ?_
      refine LW.val rfl rfl (r_load rfl one43 (hM.rd hR (by simpa using hr) (8 * 4 + k) (by omega))) ?_
      refine LW.val rfl rfl (r_index_arr rfl rfl arr57 (by decide) (by decide)) ?_
      refine LW.eff rfl rfl (r_storeB rfl rfl one43 rfl hBB12 (by decide)) ?_
      refine LW.nil (CW.fresh [(0, .pointer (some ⟨lb, lo, none⟩)), (1, .pointer (some ⟨rb, ro, none⟩)), (2, .int .u32 flags), (3, .pointer (some ⟨kb, ko, none⟩)), (4, .pointer (some ⟨ob, oo, none⟩)), (5, .int .i64 ((n : Nat) : Int)), (12, .pointer (some ⟨tb, 0, none⟩)), (13, .pointer (some ⟨bb, 0, none⟩)), (14, .int .i64 ((k : Nat) : Int))] ⟨rfl, rfl, rfl, rfl, rfl, rfl, rfl, rfl, rfl, trivial⟩ (φ := hpPhi w ob nb tb bb te (hpC c oo k (hpF L R K flags)) cT (put cB 0 13 (fun j => .int .u32 (hpB L R k j)))) ⟨hM.fresh (Mod.set _ bb _ _) (by omega), (Mod.set _ bb _ _).blk hO (by simpa using hOB), (Mod.set _ bb _ _).blk hT (by simpa using hTB), (congrArg (fun c => Blk _ bb 16 c 57) (put_snoc cB 0 12 (fun j => .int .u32 (hpB L R k j)) (.int .u32 (R (8 * 4 + k))) rfl)).mp (hBB12.set (i := 0 + 12) (.int .u32 (R (8 * 4 + k))) (by decide))⟩ ?_)
      clear hM hO hT hBB12 w0 J
      rintro J w0 ⟨hM, hO, hT, hBB13⟩
      refine CW.seq (CW.region ?_)
      refine LW.val rfl rfl (r_move) ?_
      refine LW.val rfl rfl (r_move) ?_
      refine LW.val rfl rfl (r_addE rfl rfl (addc (m := 8 * 5) hk8 (by decide))) ?_
      refine LW.val rfl rfl (r_nil rfl) ?_
      refine LW.val rfl rfl (r_ix rfl rfl arr47 (by omega)) ?_
      refine LW.val rfl rfl (r_load rfl one43 (hM.rd hR (by simpa using hr) (8 * 5 + k) (by omega))) ?_
      refine LW.val rfl rfl (r_index_arr rfl rfl arr57 (by decide) (by decide)) ?_
      refine LW.eff rfl rfl (r_storeB rfl rfl one43 rfl hBB13 (by decide)) ?_
      refine LW.nil (CW.fresh [(0, .pointer (some ⟨lb, lo, none⟩)), (1, .pointer (some ⟨rb, ro, none⟩)), (2, .int .u32 flags), (3, .pointer (some ⟨kb, ko, none⟩)), (4, .pointer (some ⟨ob, oo, none⟩)), (5, .int .i64 ((n : Nat) : Int)), (12, .pointer (some ⟨tb, 0, none⟩)), (13, .pointer (some ⟨bb, 0, none⟩)), (14, .int .i64 ((k : Nat) : Int))] ⟨rfl, rfl, rfl, rfl, rfl, rfl, rfl, rfl, rfl, trivial⟩ (φ := hpPhi w ob nb tb bb te (hpC c oo k (hpF L R K flags)) cT (put cB 0 14 (fun j => .int .u32 (hpB L R k j)))) ⟨hM.fresh (Mod.set _ bb _ _) (by omega), (Mod.set _ bb _ _).blk hO (by simpa using hOB), (Mod.set _ bb _ _).blk hT (by simpa using hTB), (congrArg (fun c => Blk _ bb 16 c 57) (put_snoc cB 0 13 (fun j => .int .u32 (hpB L R k j)) (.int .u32 (R (8 * 5 + k))) rfl)).mp (hBB13.set (i := 0 + 13) (.int .u32 (R (8 * 5 + k))) (by decide))⟩ ?_)
      clear hM hO hT hBB13 w0 J
      rintro J w0 ⟨hM, hO, hT, hBB14⟩
      refine CW.seq (CW.region ?_)
      refine LW.val rfl rfl (r_move) ?_
      refine LW.val rfl rfl (r_move) ?_
      refine LW.val rfl rfl (r_addE rfl rfl (addc (m := 8 * 6) hk8 (by decide))) ?_
      refine LW.val rfl rfl (r_nil rfl) ?_
      refine LW.val rfl rfl (r_ix rfl rfl arr47 (by omega)) ?_
      refine LW.val rfl rfl (r_load rfl one43 (hM.rd hR (by simpa using hr) (8 * 6 + k) (by omega))) ?_
      refine LW.val rfl rfl (r_index_arr rfl rfl arr57 (by decide) (by decide)) ?_
      refine LW.eff rfl rfl (r_storeB rfl rfl one43 rfl hBB14 (by decide)) ?_
      refine LW.nil (CW.fresh [(0, .pointer (some ⟨lb, lo, none⟩)), (1, .pointer (some ⟨rb, ro, none⟩)), (2, .int .u32 flags), (3, .pointer (some ⟨kb, ko, none⟩)), (4, .pointer (some ⟨ob, oo, none⟩)), (5, .int .i64 ((n : Nat) : Int)), (12, .pointer (some ⟨tb, 0, none⟩)), (13, .pointer (some ⟨bb, 0, none⟩)), (14, .int .i64 ((k : Nat) : Int))] ⟨rfl, rfl, rfl, rfl, rfl, rfl, rfl, rfl, rfl, trivial⟩ (φ := hpPhi w ob nb tb bb te (hpC c oo k (hpF L R K flags)) cT (put cB 0 15 (fun j => .int .u32 (hpB L R k j)))) ⟨hM.fresh (Mod.set _ bb _ _) (by omega), (Mod.set _ bb _ _).blk hO (by simpa using hOB), (Mod.set _ bb _ _).blk hT (by simpa using hTB), (congrArg (fun c => Blk _ bb 16 c 57) (put_snoc cB 0 14 (fun j => .int .u32 (hpB L R k j)) (.int .u32 (R (8 * 6 + k))) rfl)).mp (hBB14.set (i := 0 + 14) (.int .u32 (R (8 * 6 + k))) (by decide))⟩ ?_)
      clear hM hO hT hBB14 w0 J
      rintro J w0 ⟨hM, hO, hT, hBB15⟩
      refine CW.seq (CW.region ?_)
      refine LW.val rfl rfl (r_move) ?_
      refine LW.val rfl rfl (r_move) ?_
      refine LW.val rfl rfl (r_addE rfl rfl (addc (m := 8 * 7) hk8 (by decide))) ?_
      refine LW.val rfl rfl (r_nil rfl) ?_
      refine LW.val rfl rfl (r_ix rfl rfl arr47 (by omega)) ?_
      refine LW.val rfl rfl (r_load rfl one43 (hM.rd hR (by simpa using hr) (8 * 7 + k) (by omega))) ?_
      refine LW.val rfl rfl (r_index_arr rfl rfl arr57 (by decide) (by decide)) ?_
      refine LW.eff rfl rfl (r_storeB rfl rfl one43 rfl hBB15 (by decide)) ?_
      refine LW.nil (CW.fresh [(0, .pointer (some ⟨lb, lo, none⟩)), (1, .pointer (some ⟨rb, ro, none⟩)), (2, .int .u32 flags), (3, .pointer (some ⟨kb, ko, none⟩)), (4, .pointer (some ⟨ob, oo, none⟩)), (5, .int .i64 ((n : Nat) : Int)), (12, .pointer (some ⟨tb, 0, none⟩)), (13, .pointer (some ⟨bb, 0, none⟩)), (14, .int .i64 ((k : Nat) : Int))] ⟨rfl, rfl, rfl, rfl, rfl, rfl, rfl, rfl, rfl, trivial⟩ (φ := hpPhi w ob nb tb bb te (hpC c oo k (hpF L R K flags)) cT (put cB 0 16 (fun j => .int .u32 (hpB L R k j)))) ⟨hM.fresh (Mod.set _ bb _ _) (by omega), (Mod.set _ bb _ _).blk hO (by simpa using hOB), (Mod.set _ bb _ _).blk hT (by simpa using hTB), (congrArg (fun c => Blk _ bb 16 c 57) (put_snoc cB 0 15 (fun j => .int .u32 (hpB L R k j)) (.int .u32 (R (8 * 7 + k))) rfl)).mp (hBB15.set (i := 0 + 15) (.int .u32 (R (8 * 7 + k))) (by decide))⟩ ?_)
      clear hM hO hT hBB15 w0 J
      rintro J w0 ⟨hM, hO, hT, hBB16⟩
      refine CW.seq (CW.region ?_)
      refine LW.val rfl rfl (r_move) ?_
      refine LW.val rfl rfl (r_move) ?_
      refine LW.call rfl rfl (e_call en38) ?_
      refine (comp38_any kb ko bb 0 tb 0 16 cT 57 K (hpB L R k) 0 64 flags w0 (hM.rd hK (by simpa using hk)) (hBB16.rd (by decide) (fun i hi => put_at cB (fun j => .int .u32 (hpB L R k j)) hi)) hT (by decide) (Or.inl (hK.ne (by decide) (by omega))) (Or.inl (Ne.symm hTB))).mono ?_
      rintro e w' ⟨rfl, hM', hT'⟩
      refine ⟨_, rfl, ?_⟩
      refine LW.nil (CW.fresh [(0, .pointer (some ⟨lb, lo, none⟩)), (1, .pointer (some ⟨rb, ro, none⟩)), (2, .int .u32 flags), (3, .pointer (some ⟨kb, ko, none⟩)), (4, .pointer (some ⟨ob, oo, none⟩)), (5, .int .i64 ((n : Nat) : Int)), (12, .pointer (some ⟨tb, 0, none⟩)), (13, .pointer (some ⟨bb, 0, none⟩)), (14, .int .i64 ((k : Nat) : Int))] ⟨rfl, rfl, rfl, rfl, rfl, rfl, rfl, rfl, rfl, trivial⟩ (φ := hpPhi w ob nb tb bb te (stw (hpC c oo k (hpF L R K flags)) oo k 0 (fun j => .int .u32 (hpF L R K flags k j))) (put cT 0 16 (fun i => .int .u32 (hpF L R K flags k i))) (put cB 0 16 (fun j => .int .u32 (hpB L R k j)))) ⟨hM.fresh hM' (by omega), by rw [stw_zero]; exact hM'.blk hO (by simpa using hOT), hT', hM'.blk hBB16 (by simpa using Ne.symm hTB)⟩ ?_)
      clear hM hO hT hBB16 hM' hT' w0 w' J
      rintro J w0 ⟨hM, hO0, hT, hBB⟩
      have hS : w0.drew.cell? ⟨tb, 0 + 0, none⟩ = some (.int .u32 (hpF L R K flags k 0)) := (hT.cell (by decide)).trans (congrArg some (put_at cT _ (by decide)))
      refine CW.seq (CW.drawn (fun w => w.cell? ⟨tb, 0 + 0, none⟩ = some (.int .u32 (hpF L R K flags k 0))) [(0, true), (1, true), (2, true), (3, true), (4, true), (5, true), (6, true), (7, false)] mixed (by kernel_rfl) (by kernel_rfl) ?_)
      refine OW.val hS rfl rfl rfl (fun _ _ => r_move) ?_
      refine OW.val hS rfl rfl rfl (fun _ _ => r_move) ?_
      refine OW.val hS rfl rfl rfl (fun _ _ => r_addE rfl rfl (addc (m := 8 * 0) hk8 (by decide))) ?_
      refine OW.val hS rfl rfl rfl (fun _ _ => r_index_arr rfl rfl arr57 (by decide) (by decide)) ?_
      refine OW.val hS rfl rfl rfl (fun _ hS => r_load rfl one43 hS) ?_
      refine OW.val hS rfl rfl rfl (fun _ _ => r_nil rfl) ?_
      refine OW.val hS rfl rfl rfl (fun _ _ => r_ix rfl rfl arr47 (by omega)) ?_
      refine OW.eff rfl rfl rfl (r_storeB rfl rfl one43 rfl hO0.drew (by omega)) ((Mod.set w0.drew ob (oo + (8 * 0 + k)) (.int .u32 (hpF L R K flags k 0))).cell hS (by simpa using Ne.symm hOT)) ?_
      refine OW.nil (CW.fresh [(0, .pointer (some ⟨lb, lo, none⟩)), (1, .pointer (some ⟨rb, ro, none⟩)), (2, .int .u32 flags), (3, .pointer (some ⟨kb, ko, none⟩)), (4, .pointer (some ⟨ob, oo, none⟩)), (5, .int .i64 ((n : Nat) : Int)), (12, .pointer (some ⟨tb, 0, none⟩)), (13, .pointer (some ⟨bb, 0, none⟩)), (14, .int .i64 ((k : Nat) : Int))] ⟨rfl, rfl, rfl, rfl, rfl, rfl, rfl, rfl, rfl, trivial⟩ (φ := hpPhi w ob nb tb bb te (stw (hpC c oo k (hpF L R K flags)) oo k 1 (fun j => .int .u32 (hpF L R K flags k j))) (put cT 0 16 (fun i => .int .u32 (hpF L R K flags k i))) (put cB 0 16 (fun j => .int .u32 (hpB L R k j)))) ⟨(hM.drewR.old (Mod.set _ ob _ _) (by simp)), (congrArg (fun c => Blk _ ob nb c te) (stw_snoc (hpC c oo k (hpF L R K flags)) oo k 0 (fun j => .int .u32 (hpF L R K flags k j)) (.int .u32 (hpF L R K flags k 0)) rfl)).mp (hO0.drew.set (i := oo + (8 * 0 + k)) (.int .u32 (hpF L R K flags k 0)) (by omega)), ((Mod.set _ ob _ _).blk hT.drew (by simpa using Ne.symm hOT)), ((Mod.set _ ob _ _).blk hBB.drew (by simpa using Ne.symm hOB))⟩ ?_)
      clear hM hO0 hT hBB hS w0 J
      rintro J w0 ⟨hM, hO1, hT, hBB⟩
      have hS : w0.drew.cell? ⟨tb, 0 + 1, none⟩ = some (.int .u32 (hpF L R K flags k 1)) := (hT.cell (by decide)).trans (congrArg some (put_at cT _ (by decide)))
      refine CW.seq (CW.drawn (fun w => w.cell? ⟨tb, 0 + 1, none⟩ = some (.int .u32 (hpF L R K flags k 1))) [(0, true), (1, true), (2, true), (3, true), (4, true), (5, true), (6, true), (7, false)] mixed (by kernel_rfl) (by kernel_rfl) ?_)
      refine OW.val hS rfl rfl rfl (fun _ _ => r_move) ?_
      refine OW.val hS rfl rfl rfl (fun _ _ => r_move) ?_
      refine OW.val hS rfl rfl rfl (fun _ _ => r_addE rfl rfl (addc (m := 8 * 1) hk8 (by decide))) ?_
      refine OW.val hS rfl rfl rfl (fun _ _ => r_index_arr rfl rfl arr57 (by decide) (by decide)) ?_
      refine OW.val hS rfl rfl rfl (fun _ hS => r_load rfl one43 hS) ?_
      refine OW.val hS rfl rfl rfl (fun _ _ => r_nil rfl) ?_
      refine OW.val hS rfl rfl rfl (fun _ _ => r_ix rfl rfl arr47 (by omega)) ?_
      refine OW.eff rfl rfl rfl (r_storeB rfl rfl one43 rfl hO1.drew (by omega)) ((Mod.set w0.drew ob (oo + (8 * 1 + k)) (.int .u32 (hpF L R K flags k 1))).cell hS (by simpa using Ne.symm hOT)) ?_
      refine OW.nil (CW.fresh [(0, .pointer (some ⟨lb, lo, none⟩)), (1, .pointer (some ⟨rb, ro, none⟩)), (2, .int .u32 flags), (3, .pointer (some ⟨kb, ko, none⟩)), (4, .pointer (some ⟨ob, oo, none⟩)), (5, .int .i64 ((n : Nat) : Int)), (12, .pointer (some ⟨tb, 0, none⟩)), (13, .pointer (some ⟨bb, 0, none⟩)), (14, .int .i64 ((k : Nat) : Int))] ⟨rfl, rfl, rfl, rfl, rfl, rfl, rfl, rfl, rfl, trivial⟩ (φ := hpPhi w ob nb tb bb te (stw (hpC c oo k (hpF L R K flags)) oo k 2 (fun j => .int .u32 (hpF L R K flags k j))) (put cT 0 16 (fun i => .int .u32 (hpF L R K flags k i))) (put cB 0 16 (fun j => .int .u32 (hpB L R k j)))) ⟨(hM.drewR.old (Mod.set _ ob _ _) (by simp)), (congrArg (fun c => Blk _ ob nb c te) (stw_snoc (hpC c oo k (hpF L R K flags)) oo k 1 (fun j => .int .u32 (hpF L R K flags k j)) (.int .u32 (hpF L R K flags k 1)) rfl)).mp (hO1.drew.set (i := oo + (8 * 1 + k)) (.int .u32 (hpF L R K flags k 1)) (by omega)), ((Mod.set _ ob _ _).blk hT.drew (by simpa using Ne.symm hOT)), ((Mod.set _ ob _ _).blk hBB.drew (by simpa using Ne.symm hOB))⟩ ?_)
      clear hM hO1 hT hBB hS w0 J
      rintro J w0 ⟨hM, hO2, hT, hBB⟩
      have hS : w0.drew.cell? ⟨tb, 0 + 2, none⟩ = some (.int .u32 (hpF L R K flags k 2)) := (hT.cell (by decide)).trans (congrArg some (put_at cT _ (by decide)))
      refine CW.seq (CW.drawn (fun w => w.cell? ⟨tb, 0 + 2, none⟩ = some (.int .u32 (hpF L R K flags k 2))) [(0, true), (1, true), (2, true), (3, true), (4, true), (5, true), (6, true), (7, false)] mixed (by kernel_rfl) (by kernel_rfl) ?_)
      refine OW.val hS rfl rfl rfl (fun _ _ => r_move) ?_
      refine OW.val hS rfl rfl rfl (fun _ _ => r_move) ?_
      refine OW.val hS rfl rfl rfl (fun _ _ => r_addE rfl rfl (addc (m := 8 * 2) hk8 (by decide))) ?_
      refine OW.val hS rfl rfl rfl (fun _ _ => r_index_arr rfl rfl arr57 (by decide) (by decide)) ?_
      refine OW.val hS rfl rfl rfl (fun _ hS => r_load rfl one43 hS) ?_
      refine OW.val hS rfl rfl rfl (fun _ _ => r_nil rfl) ?_
      refine OW.val hS rfl rfl rfl (fun _ _ => r_ix rfl rfl arr47 (by omega)) ?_
      refine OW.eff rfl rfl rfl (r_storeB rfl rfl one43 rfl hO2.drew (by omega)) ((Mod.set w0.drew ob (oo + (8 * 2 + k)) (.int .u32 (hpF L R K flags k 2))).cell hS (by simpa using Ne.symm hOT)) ?_
      refine OW.nil (CW.fresh [(0, .pointer (some ⟨lb, lo, none⟩)), (1, .pointer (some ⟨rb, ro, none⟩)), (2, .int .u32 flags), (3, .pointer (some ⟨kb, ko, none⟩)), (4, .pointer (some ⟨ob, oo, none⟩)), (5, .int .i64 ((n : Nat) : Int)), (12, .pointer (some ⟨tb, 0, none⟩)), (13, .pointer (some ⟨bb, 0, none⟩)), (14, .int .i64 ((k : Nat) : Int))] ⟨rfl, rfl, rfl, rfl, rfl, rfl, rfl, rfl, rfl, trivial⟩ (φ := hpPhi w ob nb tb bb te (stw (hpC c oo k (hpF L R K flags)) oo k 3 (fun j => .int .u32 (hpF L R K flags k j))) (put cT 0 16 (fun i => .int .u32 (hpF L R K flags k i))) (put cB 0 16 (fun j => .int .u32 (hpB L R k j)))) ⟨(hM.drewR.old (Mod.set _ ob _ _) (by simp)), (congrArg (fun c => Blk _ ob nb c te) (stw_snoc (hpC c oo k (hpF L R K flags)) oo k 2 (fun j => .int .u32 (hpF L R K flags k j)) (.int .u32 (hpF L R K flags k 2)) rfl)).mp (hO2.drew.set (i := oo + (8 * 2 + k)) (.int .u32 (hpF L R K flags k 2)) (by omega)), ((Mod.set _ ob _ _).blk hT.drew (by simpa using Ne.symm hOT)), ((Mod.set _ ob _ _).blk hBB.drew (by simpa using Ne.symm hOB))⟩ ?_)
      clear hM hO2 hT hBB hS w0 J
      rintro J w0 ⟨hM, hO3, hT, hBB⟩
      have hS : w0.drew.cell? ⟨tb, 0 + 3, none⟩ = some (.int .u32 (hpF L R K flags k 3)) := (hT.cell (by decide)).trans (congrArg some (put_at cT _ (by decide)))
      refine CW.seq (CW.drawn (fun w => w.cell? ⟨tb, 0 + 3, none⟩ = some (.int .u32 (hpF L R K flags k 3))) [(0, true), (1, true), (2, true), (3, true), (4, true), (5, true), (6, true), (7, false)] mixed (by kernel_rfl) (by kernel_rfl) ?_)
      refine OW.val hS rfl rfl rfl (fun _ _ => r_move) ?_
      refine OW.val hS rfl rfl rfl (fun _ _ => r_move) ?_
      refine OW.val hS rfl rfl rfl (fun _ _ => r_addE rfl rfl (addc (m := 8 * 3) hk8 (by decide))) ?_
      refine OW.val hS rfl rfl rfl (fun _ _ => r_index_arr rfl rfl arr57 (by decide) (by decide)) ?_
      refine OW.val hS rfl rfl rfl (fun _ hS => r_load rfl one43 hS) ?_
      refine OW.val hS rfl rfl rfl (fun _ _ => r_nil rfl) ?_
      refine OW.val hS rfl rfl rfl (fun _ _ => r_ix rfl rfl arr47 (by omega)) ?_
      refine OW.eff rfl rfl rfl (r_storeB rfl rfl one43 rfl hO3.drew (by omega)) ((Mod.set w0.drew ob (oo + (8 * 3 + k)) (.int .u32 (hpF L R K flags k 3))).cell hS (by simpa using Ne.symm hOT)) ?_
      refine OW.nil (CW.fresh [(0, .pointer (some ⟨lb, lo, none⟩)), (1, .pointer (some ⟨rb, ro, none⟩)), (2, .int .u32 flags), (3, .pointer (some ⟨kb, ko, none⟩)), (4, .pointer (some ⟨ob, oo, none⟩)), (5, .int .i64 ((n : Nat) : Int)), (12, .pointer (some ⟨tb, 0, none⟩)), (13, .pointer (some ⟨bb, 0, none⟩)), (14, .int .i64 ((k : Nat) : Int))] ⟨rfl, rfl, rfl, rfl, rfl, rfl, rfl, rfl, rfl, trivial⟩ (φ := hpPhi w ob nb tb bb te (stw (hpC c oo k (hpF L R K flags)) oo k 4 (fun j => .int .u32 (hpF L R K flags k j))) (put cT 0 16 (fun i => .int .u32 (hpF L R K flags k i))) (put cB 0 16 (fun j => .int .u32 (hpB L R k j)))) ⟨(hM.drewR.old (Mod.set _ ob _ _) (by simp)), (congrArg (fun c => Blk _ ob nb c te) (stw_snoc (hpC c oo k (hpF L R K flags)) oo k 3 (fun j => .int .u32 (hpF L R K flags k j)) (.int .u32 (hpF L R K flags k 3)) rfl)).mp (hO3.drew.set (i := oo + (8 * 3 + k)) (.int .u32 (hpF L R K flags k 3)) (by omega)), ((Mod.set _ ob _ _).blk hT.drew (by simpa using Ne.symm hOT)), ((Mod.set _ ob _ _).blk hBB.drew (by simpa using Ne.symm hOB))⟩ ?_)
      clear hM hO3 hT hBB hS w0 J
      rintro J w0 ⟨hM, hO4, hT, hBB⟩
      have hS : w0.drew.cell? ⟨tb, 0 + 4, none⟩ = some (.int .u32 (hpF L R K flags k 4)) := (hT.cell (by decide)).trans (congrArg some (put_at cT _ (by decide)))
      refine CW.seq (CW.drawn (fun w => w.cell? ⟨tb, 0 + 4, none⟩ = some (.int .u32 (hpF L R K flags k 4))) [(0, true), (1, true), (2, true), (3, true), (4, true), (5, true), (6, true), (7, false)] mixed (by kernel_rfl) (by kernel_rfl) ?_)
      refine OW.val hS rfl rfl rfl (fun _ _ => r_move) ?_
      refine OW.val hS rfl rfl rfl (fun _ _ => r_move) ?_
      refine OW.val hS rfl rfl rfl (fun _ _ => r_addE rfl rfl (addc (m := 8 * 4) hk8 (by decide))) ?_
      refine OW.val hS rfl rfl rfl (fun _ _ => r_index_arr rfl rfl arr57 (by decide) (by decide)) ?_
      refine OW.val hS rfl rfl rfl (fun _ hS => r_load rfl one43 hS) ?_
      refine OW.val hS rfl rfl rfl (fun _ _ => r_nil rfl) ?_
      refine OW.val hS rfl rfl rfl (fun _ _ => r_ix rfl rfl arr47 (by omega)) ?_
      refine OW.eff rfl rfl rfl (r_storeB rfl rfl one43 rfl hO4.drew (by omega)) ((Mod.set w0.drew ob (oo + (8 * 4 + k)) (.int .u32 (hpF L R K flags k 4))).cell hS (by simpa using Ne.symm hOT)) ?_
      refine OW.nil (CW.fresh [(0, .pointer (some ⟨lb, lo, none⟩)), (1, .pointer (some ⟨rb, ro, none⟩)), (2, .int .u32 flags), (3, .pointer (some ⟨kb, ko, none⟩)), (4, .pointer (some ⟨ob, oo, none⟩)), (5, .int .i64 ((n : Nat) : Int)), (12, .pointer (some ⟨tb, 0, none⟩)), (13, .pointer (some ⟨bb, 0, none⟩)), (14, .int .i64 ((k : Nat) : Int))] ⟨rfl, rfl, rfl, rfl, rfl, rfl, rfl, rfl, rfl, trivial⟩ (φ := hpPhi w ob nb tb bb te (stw (hpC c oo k (hpF L R K flags)) oo k 5 (fun j => .int .u32 (hpF L R K flags k j))) (put cT 0 16 (fun i => .int .u32 (hpF L R K flags k i))) (put cB 0 16 (fun j => .int .u32 (hpB L R k j)))) ⟨(hM.drewR.old (Mod.set _ ob _ _) (by simp)), (congrArg (fun c => Blk _ ob nb c te) (stw_snoc (hpC c oo k (hpF L R K flags)) oo k 4 (fun j => .int .u32 (hpF L R K flags k j)) (.int .u32 (hpF L R K flags k 4)) rfl)).mp (hO4.drew.set (i := oo + (8 * 4 + k)) (.int .u32 (hpF L R K flags k 4)) (by omega)), ((Mod.set _ ob _ _).blk hT.drew (by simpa using Ne.symm hOT)), ((Mod.set _ ob _ _).blk hBB.drew (by simpa using Ne.symm hOB))⟩ ?_)
      clear hM hO4 hT hBB hS w0 J
      rintro J w0 ⟨hM, hO5, hT, hBB⟩
      have hS : w0.drew.cell? ⟨tb, 0 + 5, none⟩ = some (.int .u32 (hpF L R K flags k 5)) := (hT.cell (by decide)).trans (congrArg some (put_at cT _ (by decide)))
      refine CW.seq (CW.drawn (fun w => w.cell? ⟨tb, 0 + 5, none⟩ = some (.int .u32 (hpF L R K flags k 5))) [(0, true), (1, true), (2, true), (3, true), (4, true), (5, true), (6, true), (7, false)] mixed (by kernel_rfl) (by kernel_rfl) ?_)
      refine OW.val hS rfl rfl rfl (fun _ _ => r_move) ?_
      refine OW.val hS rfl rfl rfl (fun _ _ => r_move) ?_
      refine OW.val hS rfl rfl rfl (fun _ _ => r_addE rfl rfl (addc (m := 8 * 5) hk8 (by decide))) ?_
      refine OW.val hS rfl rfl rfl (fun _ _ => r_index_arr rfl rfl arr57 (by decide) (by decide)) ?_
      refine OW.val hS rfl rfl rfl (fun _ hS => r_load rfl one43 hS) ?_
      refine OW.val hS rfl rfl rfl (fun _ _ => r_nil rfl) ?_
      refine OW.val hS rfl rfl rfl (fun _ _ => r_ix rfl rfl arr47 (by omega)) ?_
      refine OW.eff rfl rfl rfl (r_storeB rfl rfl one43 rfl hO5.drew (by omega)) ((Mod.set w0.drew ob (oo + (8 * 5 + k)) (.int .u32 (hpF L R K flags k 5))).cell hS (by simpa using Ne.symm hOT)) ?_
      refine OW.nil (CW.fresh [(0, .pointer (some ⟨lb, lo, none⟩)), (1, .pointer (some ⟨rb, ro, none⟩)), (2, .int .u32 flags), (3, .pointer (some ⟨kb, ko, none⟩)), (4, .pointer (some ⟨ob, oo, none⟩)), (5, .int .i64 ((n : Nat) : Int)), (12, .pointer (some ⟨tb, 0, none⟩)), (13, .pointer (some ⟨bb, 0, none⟩)), (14, .int .i64 ((k : Nat) : Int))] ⟨rfl, rfl, rfl, rfl, rfl, rfl, rfl, rfl, rfl, trivial⟩ (φ := hpPhi w ob nb tb bb te (stw (hpC c oo k (hpF L R K flags)) oo k 6 (fun j => .int .u32 (hpF L R K flags k j))) (put cT 0 16 (fun i => .int .u32 (hpF L R K flags k i))) (put cB 0 16 (fun j => .int .u32 (hpB L R k j)))) ⟨(hM.drewR.old (Mod.set _ ob _ _) (by simp)), (congrArg (fun c => Blk _ ob nb c te) (stw_snoc (hpC c oo k (hpF L R K flags)) oo k 5 (fun j => .int .u32 (hpF L R K flags k j)) (.int .u32 (hpF L R K flags k 5)) rfl)).mp (hO5.drew.set (i := oo + (8 * 5 + k)) (.int .u32 (hpF L R K flags k 5)) (by omega)), ((Mod.set _ ob _ _).blk hT.drew (by simpa using Ne.symm hOT)), ((Mod.set _ ob _ _).blk hBB.drew (by simpa using Ne.symm hOB))⟩ ?_)
      clear hM hO5 hT hBB hS w0 J
      rintro J w0 ⟨hM, hO6, hT, hBB⟩
      have hS : w0.drew.cell? ⟨tb, 0 + 6, none⟩ = some (.int .u32 (hpF L R K flags k 6)) := (hT.cell (by decide)).trans (congrArg some (put_at cT _ (by decide)))
      refine CW.seq (CW.drawn (fun w => w.cell? ⟨tb, 0 + 6, none⟩ = some (.int .u32 (hpF L R K flags k 6))) [(0, true), (1, true), (2, true), (3, true), (4, true), (5, true), (6, true), (7, false)] mixed (by kernel_rfl) (by kernel_rfl) ?_)
      refine OW.val hS rfl rfl rfl (fun _ _ => r_move) ?_
      refine OW.val hS rfl rfl rfl (fun _ _ => r_move) ?_
      refine OW.val hS rfl rfl rfl (fun _ _ => r_addE rfl rfl (addc (m := 8 * 6) hk8 (by decide))) ?_
      refine OW.val hS rfl rfl rfl (fun _ _ => r_index_arr rfl rfl arr57 (by decide) (by decide)) ?_
      refine OW.val hS rfl rfl rfl (fun _ hS => r_load rfl one43 hS) ?_
      refine OW.val hS rfl rfl rfl (fun _ _ => r_nil rfl) ?_
      refine OW.val hS rfl rfl rfl (fun _ _ => r_ix rfl rfl arr47 (by omega)) ?_
      refine OW.eff rfl rfl rfl (r_storeB rfl rfl one43 rfl hO6.drew (by omega)) ((Mod.set w0.drew ob (oo + (8 * 6 + k)) (.int .u32 (hpF L R K flags k 6))).cell hS (by simpa using Ne.symm hOT)) ?_
      refine OW.nil (CW.fresh [(0, .pointer (some ⟨lb, lo, none⟩)), (1, .pointer (some ⟨rb, ro, none⟩)), (2, .int .u32 flags), (3, .pointer (some ⟨kb, ko, none⟩)), (4, .pointer (some ⟨ob, oo, none⟩)), (5, .int .i64 ((n : Nat) : Int)), (12, .pointer (some ⟨tb, 0, none⟩)), (13, .pointer (some ⟨bb, 0, none⟩)), (14, .int .i64 ((k : Nat) : Int))] ⟨rfl, rfl, rfl, rfl, rfl, rfl, rfl, rfl, rfl, trivial⟩ (φ := hpPhi w ob nb tb bb te (stw (hpC c oo k (hpF L R K flags)) oo k 7 (fun j => .int .u32 (hpF L R K flags k j))) (put cT 0 16 (fun i => .int .u32 (hpF L R K flags k i))) (put cB 0 16 (fun j => .int .u32 (hpB L R k j)))) ⟨(hM.drewR.old (Mod.set _ ob _ _) (by simp)), (congrArg (fun c => Blk _ ob nb c te) (stw_snoc (hpC c oo k (hpF L R K flags)) oo k 6 (fun j => .int .u32 (hpF L R K flags k j)) (.int .u32 (hpF L R K flags k 6)) rfl)).mp (hO6.drew.set (i := oo + (8 * 6 + k)) (.int .u32 (hpF L R K flags k 6)) (by omega)), ((Mod.set _ ob _ _).blk hT.drew (by simpa using Ne.symm hOT)), ((Mod.set _ ob _ _).blk hBB.drew (by simpa using Ne.symm hOB))⟩ ?_)
      clear hM hO6 hT hBB hS w0 J
      rintro J w0 ⟨hM, hO7, hT, hBB⟩
      have hS : w0.drew.cell? ⟨tb, 0 + 7, none⟩ = some (.int .u32 (hpF L R K flags k 7)) := (hT.cell (by decide)).trans (congrArg some (put_at cT _ (by decide)))
      refine CW.drawn (fun w => w.cell? ⟨tb, 0 + 7, none⟩ = some (.int .u32 (hpF L R K flags k 7))) [(0, true), (1, true), (2, true), (3, true), (4, true), (5, true), (6, true), (7, false)] mixed (by kernel_rfl) (by kernel_rfl) ?_
      refine OW.val hS rfl rfl rfl (fun _ _ => r_move) ?_
      refine OW.val hS rfl rfl rfl (fun _ _ => r_move) ?_
      refine OW.val hS rfl rfl rfl (fun _ _ => r_addE rfl rfl (addc (m := 8 * 7) hk8 (by decide))) ?_
      refine OW.val hS rfl rfl rfl (fun _ _ => r_index_arr rfl rfl arr57 (by decide) (by decide)) ?_
      refine OW.val hS rfl rfl rfl (fun _ hS => r_load rfl one43 hS) ?_
      refine OW.val hS rfl rfl rfl (fun _ _ => r_nil rfl) ?_
      refine OW.val hS rfl rfl rfl (fun _ _ => r_ix rfl rfl arr47 (by omega)) ?_
      refine OW.eff rfl rfl rfl (r_storeB rfl rfl one43 rfl hO7.drew (by omega)) ((Mod.set w0.drew ob (oo + (8 * 7 + k)) (.int .u32 (hpF L R K flags k 7))).cell hS (by simpa using Ne.symm hOT)) ?_
      refine OW.nil (CW.fresh [(0, .pointer (some ⟨lb, lo, none⟩)), (1, .pointer (some ⟨rb, ro, none⟩)), (2, .int .u32 flags), (3, .pointer (some ⟨kb, ko, none⟩)), (4, .pointer (some ⟨ob, oo, none⟩)), (5, .int .i64 ((n : Nat) : Int)), (12, .pointer (some ⟨tb, 0, none⟩)), (13, .pointer (some ⟨bb, 0, none⟩)), (14, .int .i64 ((k : Nat) : Int))] ⟨rfl, rfl, rfl, rfl, rfl, rfl, rfl, rfl, rfl, trivial⟩ (φ := hpPhi w ob nb tb bb te (stw (hpC c oo k (hpF L R K flags)) oo k 8 (fun j => .int .u32 (hpF L R K flags k j))) (put cT 0 16 (fun i => .int .u32 (hpF L R K flags k i))) (put cB 0 16 (fun j => .int .u32 (hpB L R k j)))) ⟨(hM.drewR.old (Mod.set _ ob _ _) (by simp)), (congrArg (fun c => Blk _ ob nb c te) (stw_snoc (hpC c oo k (hpF L R K flags)) oo k 7 (fun j => .int .u32 (hpF L R K flags k j)) (.int .u32 (hpF L R K flags k 7)) rfl)).mp (hO7.drew.set (i := oo + (8 * 7 + k)) (.int .u32 (hpF L R K flags k 7)) (by omega)), ((Mod.set _ ob _ _).blk hT.drew (by simpa using Ne.symm hOT)), ((Mod.set _ ob _ _).blk hBB.drew (by simpa using Ne.symm hOB))⟩ ?_)
      clear hM hO7 hT hBB hS w0 J
      rintro J w0 ⟨hM, hO8, hT, hBB⟩
      rw [hpC_step c oo k _ hk8] at hO8
      refine CW.region (LW.val rfl rfl r_move (LW.val rfl rfl (r_addE rfl rfl (succ_i64 (by omega))) (LW.val rfl rfl r_assign (LW.nil ?_))))
      exact ⟨q - 1, by omega, k + 1, _, _, _, by omega, (tab_of_agrees (α := Value) _ [(0, .pointer (some ⟨lb, lo, none⟩)), (1, .pointer (some ⟨rb, ro, none⟩)), (2, .int .u32 flags), (3, .pointer (some ⟨kb, ko, none⟩)), (4, .pointer (some ⟨ob, oo, none⟩)), (5, .int .i64 ((n : Nat) : Int)), (12, .pointer (some ⟨tb, 0, none⟩)), (13, .pointer (some ⟨bb, 0, none⟩)), (14, .int .i64 (((k + 1) : Nat) : Int))] ⟨rfl, rfl, rfl, rfl, rfl, rfl, rfl, rfl, rfl, trivial⟩).symm, hM, hO8, hT, hBB⟩
    · have hkn : k = n := by omega
      subst hkn
      refine CW.seq (CW.seq (CW.region ?_))
      refine LW.val rfl rfl (r_move) ?_
      refine LW.val rfl rfl (r_move) ?_
      refine LW.val rfl rfl (r_lssE rfl rfl (q := false) (decide_eq_false (by omega))) ?_
      refine LW.val rfl rfl (r_move) ?_
      refine LW.pass (gno rfl rfl rfl rfl rfl) rfl ?_
      refine LW.pass (gno rfl rfl rfl rfl rfl) rfl ?_
      refine LW.val rfl rfl (r_pick rfl) ?_
      refine LW.nil (CW.cond_f rfl (CW.exit (Or.inl ⟨rfl, ?_⟩)))
      exact ⟨_, RetV.none rfl, rfl, hM, hO⟩
theorem hashp44_any (lb lo rb ro kb ko ob oo nb n : Nat) (c : Nat → Value) (te : TypeId) (L R K : Nat → Int) (flags : Int) (w : World) (hL : Rd w lb lo 64 .u32 L) (hR : Rd w rb ro 64 .u32 R) (hK : Rd w kb ko 8 .u32 K)
    (hl : lb ≠ ob) (hr : rb ≠ ob) (hk : kb ≠ ob) (hB : Blk w ob nb c te) (ho : oo + 64 ≤ nb) (hn : n ≤ 8) :
    Calls Tryd.prog 44 #[.pointer (some ⟨lb, lo, none⟩), .pointer (some ⟨rb, ro, none⟩), .int .u32 flags, .pointer (some ⟨kb, ko, none⟩), .pointer (some ⟨ob, oo, none⟩), .int .i64 ((n : Nat) : Int)] w fun e w' => e = .returned (.tuple #[]) ∧ Mod [ob] w w' ∧ Blk w' ob nb (hpC c oo n (hpF L R K flags)) te := by
  refine calls_of_CW (l := [_, _, _, _, _, _]) (N := 19) Tryd.func44 rfl rfl rfl ?_
  refine CW.region ?_
  refine LW.val rfl rfl (r_move) ?_
  refine LW.val rfl rfl (r_move) ?_
  refine LW.val rfl rfl (r_move) ?_
  refine LW.val rfl rfl (r_move) ?_
  refine LW.val rfl rfl (r_move) ?_
  refine LW.val rfl rfl (r_move) ?_
  refine LW.call rfl rfl (e_call en46) ?_
  refine (hashp_any lb lo rb ro kb ko ob oo nb n c te L R K flags w hL hR hK hl hr hk hB ho hn).mono ?_
  rintro e w' ⟨rfl, hM, hB'⟩
  refine ⟨_, rfl, ?_⟩
  exact LW.nil ⟨_, RetV.none rfl, rfl, hM, hB'⟩
theorem hashp37_any (lb lo rb ro kb ko ob oo nb n : Nat) (c : Nat → Value) (te : TypeId) (L R K : Nat → Int) (flags : Int) (w : World) (hL : Rd w lb lo 64 .u32 L) (hR : Rd w rb ro 64 .u32 R) (hK : Rd w kb ko 8 .u32 K)
    (hl : lb ≠ ob) (hr : rb ≠ ob) (hk : kb ≠ ob) (hB : Blk w ob nb c te) (ho : oo + 64 ≤ nb) (hn : n ≤ 8) :
    Calls Tryd.prog 37 #[.pointer (some ⟨lb, lo, none⟩), .pointer (some ⟨rb, ro, none⟩), .int .u32 flags, .pointer (some ⟨kb, ko, none⟩), .pointer (some ⟨ob, oo, none⟩), .int .i64 ((n : Nat) : Int)] w fun e w' => e = .returned (.tuple #[]) ∧ Mod [ob] w w' ∧ Blk w' ob nb (hpC c oo n (hpF L R K flags)) te := by
  refine calls_of_CW (l := [_, _, _, _, _, _]) (N := 19) Tryd.func37 rfl rfl rfl ?_
  refine CW.region ?_
  refine LW.val rfl rfl (r_move) ?_
  refine LW.val rfl rfl (r_move) ?_
  refine LW.val rfl rfl (r_move) ?_
  refine LW.val rfl rfl (r_move) ?_
  refine LW.val rfl rfl (r_move) ?_
  refine LW.val rfl rfl (r_move) ?_
  refine LW.call rfl rfl (e_call en44) ?_
  refine (hashp44_any lb lo rb ro kb ko ob oo nb n c te L R K flags w hL hR hK hl hr hk hB ho hn).mono ?_
  rintro e w' ⟨rfl, hM, hB'⟩
  refine ⟨_, rfl, ?_⟩
  exact LW.nil ⟨_, RetV.none rfl, rfl, hM, hB'⟩
end Go.Proofs.YtfaopfaghnefdaaDoor
