/- FnPrefix answers true. Conditions: the two tables lie where the program says; the slice of bytes is there. -/
import Derived.Test.YtfaopfaghnefdaaDoorHsh
namespace Go.Proofs.YtfaopfaghnefdaaDoor
open Go
theorem info22 : ∃ (i : TypeInfo) (z : Value), Tryd.prog.info? 22 = some i ∧ i.size = 1 ∧ i.zero = some z := by
  have h1 : (Tryd.prog.info? 22).map (·.size) = some 1 := by kernel_rfl
  have h3 : (Tryd.prog.info? 22).map (·.zero) = some (some (.slice none 0 0)) := by kernel_rfl
  cases hq : Tryd.prog.info? 22 with
  | none => simp [hq] at h1
  | some i => exact ⟨i, _, rfl, by simpa [hq] using h1, by simpa [hq] using h3⟩
def byteI (x : Int) : Nat → Int
  | 0 => IntKind.u8.wrap x
  | 1 => IntKind.u8.wrap (x.fdiv (2 ^ 8))
  | 2 => IntKind.u8.wrap (x.fdiv (2 ^ 16))
  | _ => IntKind.u8.wrap (x.fdiv (2 ^ 24))
theorem byteW_I (x : Int) : ∀ k : Nat, byteW x k = .int .u8 (byteI x k)
  | 0 => rfl
  | 1 => rfl
  | 2 => rfl
  | _ + 3 => rfl
def rdI (s : DS) (i : Nat) : Int := byteI (compF s.ch s.bl ((s.ctr + i / 64 : Nat) : Int) s.blen s.fl (i % 64 / 4)) (i % 64 % 4)
theorem rdF_I (s : DS) (i : Nat) : rdF s i = .int .u8 (rdI s i) := byteW_I _ _
theorem SlA.one {w : World} {v : Value} {n : Nat} {d : Nat → Int} (h : SlA w v n d) : v.oneCell' = true := by
  rcases h with (⟨c, rfl, rfl⟩ | ⟨b, o, c, rfl, _⟩) | ⟨a, c, rfl, rfl⟩ <;> rfl
theorem SlA.lenE {w : World} {v : Value} {n : Nat} {d : Nat → Int} (h : SlA w v n d) : ∃ a c, v = .slice a n c := by
  rcases h with h | ⟨a, c, rfl, rfl⟩
  · exact h.lenE
  · exact ⟨_, _, rfl⟩
set_option maxHeartbeats 4000000 in
theorem prefix_any (m : Nat) (n k : Int) (v : Value) (g T d : Nat → Int) (w : World) (hg : Rd w 0 0 8 .u32 g) (hT : Rd w 1 0 64 .u8 T) (hv : SlA w v m d) :
    Calls Tryd.prog 3 #[v, .int .i64 n, .int .i64 k] w fun e w' => e = .returned (.bool true) ∧ Mod [] w w' := by
  obtain ⟨a, c, hvE⟩ := hv.lenE
  have hv1 := hv.one
  refine calls_of_CW (l := [_, _, _]) (N := 58) Tryd.func3 rfl rfl rfl ?_
  first | refine CW.seq (CW.region ?_) | refine CW.seq (CW.seq (CW.region ?_))
  refine LW.val rfl rfl (r_assign) ?_
  refine LW.nil ?_
  first | refine CW.seq (CW.region ?_) | refine CW.seq (CW.seq (CW.region ?_))
  refine LW.val rfl rfl (r_move) ?_
  refine LW.val rfl rfl (r_lenL (a := a) (n := m) (c := c) hvE Tryd.underlying22) ?_
  refine LW.val rfl rfl (r_gtrE rfl rfl (q := decide (2147483647 < m)) (decide_eq_decide.2 (by omega))) ?_
  refine LW.nil ?_
  by_cases hbig : 2147483647 < m
  · first | refine CW.cond_t (congrArg Value.bool (decide_eq_true hbig)) ?_ | refine CW.seq (CW.cond_t (congrArg Value.bool (decide_eq_true hbig)) ?_)
    first | refine CW.seq (CW.region ?_) | refine CW.seq (CW.seq (CW.region ?_))
    refine LW.val rfl rfl (r_assign) ?_
    exact LW.nil (CW.ret ⟨_, RetV.one (t := 6) rfl rfl, rfl, Mod.refl _ _⟩)
  first | refine CW.cond_f (congrArg Value.bool (decide_eq_false hbig)) (CW.skip ?_) | refine CW.seq (CW.cond_f (congrArg Value.bool (decide_eq_false hbig)) (CW.skip ?_))
  refine CW.seq (CW.seq (CW.cut [(0, v), (1, .int .i64 n), (2, .int .i64 k), (27, .bool (decide (32768 < m ∨ k < 0 ∨ n < k ∨ 4096 < n)))] (fun w' => w' = w) ?_ ?_))
  · by_cases ha : 32768 < m
    · refine CW.region ?_
      refine LW.val rfl rfl (r_move) ?_
      refine LW.val rfl rfl (r_lenL (a := a) (n := m) (c := c) hvE Tryd.underlying22) ?_
      refine LW.val rfl rfl (r_gtrE rfl rfl (q := true) (decide_eq_true (by omega))) ?_
      refine LW.val rfl rfl (r_move) ?_
      refine LW.pass (gno rfl rfl rfl rfl rfl) rfl ?_
      refine LW.pass (gno rfl rfl rfl rfl rfl) rfl ?_
      refine LW.val rfl rfl (r_pick rfl) ?_
      refine LW.val rfl rfl (r_move) ?_
      refine LW.pass (gno rfl rfl rfl rfl rfl) rfl ?_
      refine LW.pass (gno rfl rfl rfl rfl rfl) rfl ?_
      refine LW.pass (gno rfl rfl rfl rfl rfl) rfl ?_
      refine LW.val rfl rfl (r_pick rfl) ?_
      refine LW.val rfl rfl (r_move) ?_
      refine LW.pass (gno rfl rfl rfl rfl rfl) rfl ?_
      refine LW.pass (gno rfl rfl rfl rfl rfl) rfl ?_
      refine LW.val rfl rfl (r_pick rfl) ?_
      exact LW.nil ⟨⟨rfl, rfl, rfl, congrArg Value.bool (decide_eq_true (Or.inl ha)).symm, trivial⟩, rfl⟩
    by_cases hb : k < 0
    · refine CW.region ?_
      refine LW.val rfl rfl (r_move) ?_
      refine LW.val rfl rfl (r_lenL (a := a) (n := m) (c := c) hvE Tryd.underlying22) ?_
      refine LW.val rfl rfl (r_gtrE rfl rfl (q := false) (decide_eq_false (by omega))) ?_
      refine LW.val rfl rfl (r_move) ?_
      refine LW.gval (gyes rfl rfl rfl rfl rfl) rfl (r_move) ?_
      refine LW.gval (gyes rfl rfl rfl rfl rfl) rfl (r_lssE rfl rfl (q := true) (decide_eq_true hb)) ?_
      refine LW.val rfl rfl (r_pick rfl) ?_
      refine LW.val rfl rfl (r_move) ?_
      refine LW.pass (gno rfl rfl rfl rfl rfl) rfl ?_
      refine LW.pass (gno rfl rfl rfl rfl rfl) rfl ?_
      refine LW.pass (gno rfl rfl rfl rfl rfl) rfl ?_
      refine LW.val rfl rfl (r_pick rfl) ?_
      refine LW.val rfl rfl (r_move) ?_
      refine LW.pass (gno rfl rfl rfl rfl rfl) rfl ?_
      refine LW.pass (gno rfl rfl rfl rfl rfl) rfl ?_
      refine LW.val rfl rfl (r_pick rfl) ?_
      exact LW.nil ⟨⟨rfl, rfl, rfl, congrArg Value.bool (decide_eq_true (Or.inr (Or.inl hb))).symm, trivial⟩, rfl⟩
    by_cases hc : n < k
    · refine CW.region ?_
      refine LW.val rfl rfl (r_move) ?_
      refine LW.val rfl rfl (r_lenL (a := a) (n := m) (c := c) hvE Tryd.underlying22) ?_
      refine LW.val rfl rfl (r_gtrE rfl rfl (q := false) (decide_eq_false (by omega))) ?_
      refine LW.val rfl rfl (r_move) ?_
      refine LW.gval (gyes rfl rfl rfl rfl rfl) rfl (r_move) ?_
      refine LW.gval (gyes rfl rfl rfl rfl rfl) rfl (r_lssE rfl rfl (q := false) (decide_eq_false hb)) ?_
      refine LW.val rfl rfl (r_pick rfl) ?_
      refine LW.val rfl rfl (r_move) ?_
      refine LW.gval (gyes rfl rfl rfl rfl rfl) rfl (r_move) ?_
      refine LW.gval (gyes rfl rfl rfl rfl rfl) rfl (r_move) ?_
      refine LW.gval (gyes rfl rfl rfl rfl rfl) rfl (r_gtrE rfl rfl (q := true) (decide_eq_true hc)) ?_
      refine LW.val rfl rfl (r_pick rfl) ?_
      refine LW.val rfl rfl (r_move) ?_
      refine LW.pass (gno rfl rfl rfl rfl rfl) rfl ?_
      refine LW.pass (gno rfl rfl rfl rfl rfl) rfl ?_
      refine LW.val rfl rfl (r_pick rfl) ?_
      exact LW.nil ⟨⟨rfl, rfl, rfl, congrArg Value.bool (decide_eq_true (Or.inr (Or.inr (Or.inl hc)))).symm, trivial⟩, rfl⟩
    by_cases hd : 4096 < n
    · refine CW.region ?_
      refine LW.val rfl rfl (r_move) ?_
      refine LW.val rfl rfl (r_lenL (a := a) (n := m) (c := c) hvE Tryd.underlying22) ?_
      refine LW.val rfl rfl (r_gtrE rfl rfl (q := false) (decide_eq_false (by omega))) ?_
      refine LW.val rfl rfl (r_move) ?_
      refine LW.gval (gyes rfl rfl rfl rfl rfl) rfl (r_move) ?_
      refine LW.gval (gyes rfl rfl rfl rfl rfl) rfl (r_lssE rfl rfl (q := false) (decide_eq_false hb)) ?_
      refine LW.val rfl rfl (r_pick rfl) ?_
      refine LW.val rfl rfl (r_move) ?_
      refine LW.gval (gyes rfl rfl rfl rfl rfl) rfl (r_move) ?_
      refine LW.gval (gyes rfl rfl rfl rfl rfl) rfl (r_move) ?_
      refine LW.gval (gyes rfl rfl rfl rfl rfl) rfl (r_gtrE rfl rfl (q := false) (decide_eq_false hc)) ?_
      refine LW.val rfl rfl (r_pick rfl) ?_
      refine LW.val rfl rfl (r_move) ?_
      refine LW.gval (gyes rfl rfl rfl rfl rfl) rfl (r_move) ?_
      refine LW.gval (gyes rfl rfl rfl rfl rfl) rfl (r_gtrE rfl rfl (q := true) (decide_eq_true hd)) ?_
      refine LW.val rfl rfl (r_pick rfl) ?_
      exact LW.nil ⟨⟨rfl, rfl, rfl, congrArg Value.bool (decide_eq_true (Or.inr (Or.inr (Or.inr hd)))).symm, trivial⟩, rfl⟩
    · refine CW.region ?_
      refine LW.val rfl rfl (r_move) ?_
      refine LW.val rfl rfl (r_lenL (a := a) (n := m) (c := c) hvE Tryd.underlying22) ?_
      refine LW.val rfl rfl (r_gtrE rfl rfl (q := false) (decide_eq_false (by omega))) ?_
      refine LW.val rfl rfl (r_move) ?_
      refine LW.gval (gyes rfl rfl rfl rfl rfl) rfl (r_move) ?_
      refine LW.gval (gyes rfl rfl rfl rfl rfl) rfl (r_lssE rfl rfl (q := false) (decide_eq_false hb)) ?_
      refine LW.val rfl rfl (r_pick rfl) ?_
      refine LW.val rfl rfl (r_move) ?_
      refine LW.gval (gyes rfl rfl rfl rfl rfl) rfl (r_move) ?_
      refine LW.gval (gyes rfl rfl rfl rfl rfl) rfl (r_move) ?_
      refine LW.gval (gyes rfl rfl rfl rfl rfl) rfl (r_gtrE rfl rfl (q := false) (decide_eq_false hc)) ?_
      refine LW.val rfl rfl (r_pick rfl) ?_
      refine LW.val rfl rfl (r_move) ?_
      refine LW.gval (gyes rfl rfl rfl rfl rfl) rfl (r_move) ?_
      refine LW.gval (gyes rfl rfl rfl rfl rfl) rfl (r_gtrE rfl rfl (q := false) (decide_eq_false hd)) ?_
      refine LW.val rfl rfl (r_pick rfl) ?_
      exact LW.nil ⟨⟨rfl, rfl, rfl, congrArg Value.bool (decide_eq_false (fun h => h.elim ha fun h => h.elim hb fun h => h.elim hc hd)).symm, trivial⟩, rfl⟩
  rintro J w0 hw0
  rw [hw0]
  clear hw0 w0
  by_cases hbad : (32768 < m ∨ k < 0 ∨ n < k ∨ 4096 < n)
  · first | refine CW.cond_t (congrArg Value.bool (decide_eq_true hbad)) ?_ | refine CW.seq (CW.cond_t (congrArg Value.bool (decide_eq_true hbad)) ?_)
    first | refine CW.seq (CW.region ?_) | refine CW.seq (CW.seq (CW.region ?_))
    refine LW.val rfl rfl (r_assign) ?_
    exact LW.nil (CW.ret ⟨_, RetV.one (t := 6) rfl rfl, rfl, Mod.refl _ _⟩)
  first | refine CW.cond_f (congrArg Value.bool (decide_eq_false hbad)) (CW.skip ?_) | refine CW.seq (CW.cond_f (congrArg Value.bool (decide_eq_false hbad)) (CW.skip ?_))
  obtain ⟨n, rfl⟩ : ∃ q : Nat, n = (q : Int) := ⟨n.toNat, by omega⟩
  obtain ⟨k, rfl⟩ : ∃ q : Nat, k = (q : Int) := ⟨k.toNat, by omega⟩
  have hm : m ≤ 32768 := by omega
  have hn : n ≤ 4096 := by omega
  have hkn : k ≤ n := by omega
  clear hbad hbig
  obtain ⟨i22, z22, hi, hsz, hz⟩ := info22
  first | refine CW.seq (CW.region ?_) | refine CW.seq (CW.seq (CW.region ?_))
  refine LW.val rfl rfl (r_move) ?_
  refine LW.val rfl rfl (r_bs1 (v := v) rfl hv1 Tryd.underlying24 hi hz hsz) ?_
  refine LW.val rfl rfl (r_move) ?_
  refine LW.call rfl rfl (e_call en5) ?_
  have hM1 := Mod.alloc w (.cells (Array.ofFn (n := 1) fun i => (fun _ => v) i.val) 22)
  have hP1 := (Blk.new w 1 (fun _ => v) 22).cell (i := 0) (by decide)
  refine (hash_any n w.heap.size m v g T d _ hP1 (hv.mod hM1 (by simp)) hm (hM1.rd hg (by simp)) (hM1.rd hT (by simp)) hn).mono ?_
  rintro e w2 ⟨g1, rfl, hM2, hg1, hX1⟩
  refine ⟨_, rfl, ?_⟩
  have hMa := hM1.none hM2
  clear hM1 hP1 hM2
  refine LW.val rfl rfl (r_move) ?_
  refine LW.val rfl rfl (r_bs1 (v := v) rfl hv1 Tryd.underlying24 hi hz hsz) ?_
  refine LW.val rfl rfl (r_move) ?_
  refine LW.call rfl rfl (e_call en5) ?_
  have hM3 := hMa.none (Mod.alloc w2 (.cells (Array.ofFn (n := 1) fun i => (fun _ => v) i.val) 22))
  have hX2 := (Mod.alloc w2 (.cells (Array.ofFn (n := 1) fun i => (fun _ => v) i.val) 22)).blk hX1 (by simp)
  have hP3 := (Blk.new w2 1 (fun _ => v) 22).cell (i := 0) (by decide)
  refine (hash_any k w2.heap.size m v g T d _ hP3 (hv.mod hM3 (by simp)) hm (hM3.rd hg (by simp)) (hM3.rd hT (by simp)) (by omega)).mono ?_
  rintro e w4 ⟨g2, rfl, hM4, hg2, hY1⟩
  refine ⟨_, rfl, ?_⟩
  have hMb := hM3.none hM4
  have hX3 := hM4.blk hX2 (by simp)
  clear hMa hM3 hX1 hX2 hP3 hM4
  refine LW.val rfl rfl (r_assign) ?_
  refine LW.val rfl rfl (r_assign) ?_
  refine LW.nil (CW.fresh [(0, v), (1, .int .i64 ((n : Nat) : Int)), (2, .int .i64 ((k : Nat) : Int)), (7, .slice (some ⟨g1, 0, none⟩) n n), (8, .slice (some ⟨g2, 0, none⟩) k k)] ⟨rfl, rfl, rfl, rfl, rfl, trivial⟩ (φ := (fun w' => Mod [] w w' ∧ Blk w' g1 n (rdF (dF g T d m)) 5 ∧ Blk w' g2 k (rdF (dF g T d m)) 5)) ⟨hMb, hX3, hY1⟩ ?_)
  clear hMb hX3 hY1 hg1 hg2 J
  rintro J w5 ⟨hM, hX, hY⟩
  first | refine CW.seq (CW.region ?_) | refine CW.seq (CW.seq (CW.region ?_))
  refine LW.val rfl rfl (r_move) ?_
  refine LW.val rfl rfl (r_lenL (n := n) rfl Tryd.underlying22) ?_
  refine LW.val rfl rfl (r_move) ?_
  refine LW.val rfl rfl (r_eqlE rfl rfl (q := true) (by simp)) ?_
  refine LW.val rfl rfl (r_move) ?_
  refine LW.gval (gyes rfl rfl rfl rfl rfl) rfl (r_move) ?_
  refine LW.gval (gyes rfl rfl rfl rfl rfl) rfl (r_lenL (n := k) rfl Tryd.underlying22) ?_
  refine LW.gval (gyes rfl rfl rfl rfl rfl) rfl (r_move) ?_
  refine LW.gval (gyes rfl rfl rfl rfl rfl) rfl (r_eqlE rfl rfl (q := true) (by simp)) ?_
  refine LW.val rfl rfl (r_pick rfl) ?_
  refine LW.val rfl rfl (r_move) ?_
  refine LW.gval (gyes rfl rfl rfl rfl rfl) rfl (r_move) ?_
  refine LW.gval (gyes rfl rfl rfl rfl rfl) rfl (r_move) ?_
  refine LW.gval (gyes rfl rfl rfl rfl rfl) rfl (r_slc_h rfl rfl slc22 (by omega) (by omega)) ?_
  refine LW.gval (gyes rfl rfl rfl rfl rfl) rfl (r_move) ?_
  refine LW.gcall (gyes rfl rfl rfl rfl rfl) rfl (e_call en6) ?_
  refine (same_any g1 0 n g2 0 k k (rdI (dF g T d m)) w5 (hX.rd (by omega) (fun i hi => by rw [Nat.zero_add]; exact rdF_I _ _)) (hY.rd (by omega) (fun i hi => by rw [Nat.zero_add]; exact rdF_I _ _))).mono ?_
  rintro e w6 ⟨rfl, hw6⟩
  refine ⟨_, rfl, ?_⟩
  rw [hw6]
  clear hw6 w6
  refine LW.val rfl rfl (r_pick rfl) ?_
  refine LW.val rfl rfl (r_move) ?_
  refine LW.gcall (gyes rfl rfl rfl rfl rfl) rfl (e_call en5) ?_
  refine (hash0_any 1 g T w5 (hM.rd hg (by simp)) (hM.rd hT (by simp)) (by decide)).mono ?_
  rintro e w6 ⟨g3, rfl, hM6, _, _⟩
  refine ⟨_, rfl, ?_⟩
  refine LW.gval (gyes rfl rfl rfl rfl rfl) rfl (r_lenL (n := 1) rfl Tryd.underlying22) ?_
  refine LW.gval (gyes rfl rfl rfl rfl rfl) rfl (r_eqlE rfl rfl (q := true) rfl) ?_
  refine LW.val rfl rfl (r_pick rfl) ?_
  refine LW.val rfl rfl (r_assign) ?_
  exact LW.nil (CW.ret ⟨_, RetV.one (t := 6) rfl rfl, rfl, hM.none hM6⟩)
end Go.Proofs.YtfaopfaghnefdaaDoor
