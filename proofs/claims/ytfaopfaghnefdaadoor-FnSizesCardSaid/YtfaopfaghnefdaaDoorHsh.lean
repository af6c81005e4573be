/- A hash from its pieces to its bytes: New, Clone, Digest, written, read, Hash; and the comparing of two slices. Conditions: the two tables lie where the program says; at most 2^31 bytes. -/
import Derived.Test.YtfaopfaghnefdaaDoorOps6
namespace Go.Proofs.YtfaopfaghnefdaaDoor
open Go
theorem en11 : Enters Tryd.prog 11 := ⟨_, Tryd.func11, by kernel_rfl, rfl⟩
theorem en10 : Enters Tryd.prog 10 := ⟨_, Tryd.func10, by kernel_rfl, rfl⟩
theorem en12 : Enters Tryd.prog 12 := ⟨_, Tryd.func12, by kernel_rfl, rfl⟩
theorem en15 : Enters Tryd.prog 15 := ⟨_, Tryd.func15, by kernel_rfl, rfl⟩
theorem en9 : Enters Tryd.prog 9 := ⟨_, Tryd.func9, by kernel_rfl, rfl⟩
theorem en5 : Enters Tryd.prog 5 := ⟨_, Tryd.func5, by kernel_rfl, rfl⟩
theorem en6 : Enters Tryd.prog 6 := ⟨_, Tryd.func6, by kernel_rfl, rfl⟩
theorem zero59 : (Tryd.prog.info? 59).map (·.zero) = some (some (aggF 44 (dg DS0))) := by kernel_rfl
theorem zeroF59 : ZeroIs Tryd.prog 59 44 (dg DS0) := ZeroIs.of zero59
theorem info5 : ∃ i : TypeInfo, Tryd.prog.info? 5 = some i ∧ i.size = 1 ∧ i.bytes = 1 ∧ i.zero = some (.int .u8 0) := by
  have h1 : (Tryd.prog.info? 5).map (·.size) = some 1 := by kernel_rfl
  have h2 : (Tryd.prog.info? 5).map (·.bytes) = some 1 := by kernel_rfl
  have h3 : (Tryd.prog.info? 5).map (·.zero) = some (some (.int .u8 0)) := by kernel_rfl
  cases hq : Tryd.prog.info? 5 with
  | none => simp [hq] at h1
  | some i => exact ⟨i, rfl, by simpa [hq] using h1, by simpa [hq] using h2, by simpa [hq] using h3⟩
theorem aggF_cells (m : Nat) (f : Nat → Value) : (aggF m f).cells = Array.ofFn (n := m) fun i => f i.val := rfl
theorem built54 (g : Nat → Int) : Tryd.prog.built 54 [(3, aggF 8 fun j => .int .u32 (g j))] = some (Array.ofFn (n := 8853) fun i => put z54 3 8 (fun j => .int .u32 (g j)) i.val) := by
  rw [built_struct zero54 Tryd.underlying54 (places := [(0, 1), (1, 1), (2, 1), (3, 8), (11, 650), (661, 8192)]) (by kernel_rfl)]
  rw [aggF_cells, fill_put (n := 8853) (m := 8) (off := 3) (f := fun j => .int .u32 (g j)) (aggF_cells _ _) rfl (by decide), Instr.fill]
theorem built56 (f : Nat → Value) : Tryd.prog.built 56 [(0, .int .i64 32), (1, aggF 8853 f)] = some (Array.ofFn (n := 8854) fun i => put (put z56 0 1 (fun _ => .int .i64 32)) 1 8853 f i.val) := by
  rw [built_struct zero56 Tryd.underlying56 (places := [(0, 1), (1, 8853)]) (by kernel_rfl)]
  rw [aggF_cells, fill_put (n := 8854) (m := 1) (off := 0) (f := fun _ => .int .i64 32) rfl rfl (by decide), fill_put (n := 8854) (m := 8853) (off := 1) (f := f) (aggF_cells _ _) rfl (by decide), Instr.fill]
theorem Blk.ofCells {w : World} {n : Nat} {c : Nat → Value} {t : TypeId} {c' : Nat → Value} (h : Blk (w.alloc (.cells (Array.ofFn (n := n) fun i => c i.val) t)) w.heap.size n c t) (hc : ∀ i, i < n → c' i = c i) : Blk (w.alloc (.cells (Array.ofFn (n := n) fun i => c i.val) t)) w.heap.size n c' t := h.congr hc
theorem new_any (g : Nat → Int) (w : World) (hg : Rd w 0 0 8 .u32 g) :
    Calls Tryd.prog 11 #[] w fun e w' => e = .returned (.pointer (some ⟨w.heap.size, 0, none⟩)) ∧ Mod [] w w' ∧ Blk w' w.heap.size 8854 (hh 0 0 g (fun _ => 0) CS0) 56 := by
  refine calls_of_CW (l := []) (N := 5) Tryd.func11 rfl rfl rfl ?_
  first | refine CW.seq (CW.region ?_) | refine CW.seq (CW.seq (CW.region ?_))
  refine LW.val rfl rfl (r_assign) ?_
  refine LW.nil ?_
  first | refine CW.seq (CW.region ?_) | refine CW.seq (CW.seq (CW.region ?_))
  refine LW.val rfl rfl (r_loadA (m := 8) (f := fun j => .int .u32 (g j)) rfl agg44 (fun j hj => hg j hj)) ?_
  refine LW.val rfl rfl (r_buildL (l := [(3, .tmp 1)]) (built54 g)) ?_
  refine LW.val rfl rfl (r_buildL (l := [(0, .const (.int .i64 32)), (1, .tmp 2)]) (built56 (put z54 3 8 (fun j => .int .u32 (g j))))) ?_
  refine LW.val rfl rfl (r_box (n := 8854) (f := put (put z56 0 1 (fun _ => .int .i64 32)) 1 8853 (put z54 3 8 (fun j => .int .u32 (g j)))) (v := aggF 8854 (put (put z56 0 1 (fun _ => .int .i64 32)) 1 8853 (put z54 3 8 (fun j => .int .u32 (g j))))) rfl (aggF_cells _ _)) ?_
  refine LW.val rfl rfl (r_assign) ?_
  exact LW.nil (CW.ret ⟨_, RetV.one (t := 0) rfl rfl, rfl, Mod.alloc _ _, (Blk.new w 8854 _ 56).congr fun i hi => (z56_hh g i hi).symm⟩)
/-- The same, or empty at whatever address. -/
def SlA (w : World) (v : Value) (n : Nat) (d : Nat → Int) : Prop := SlB w v n d ∨ ∃ a c, v = .slice (some a) 0 c ∧ n = 0
theorem clone_any (n : Nat) (v : Value) (d : Nat → Int) (w : World) (hv : SlA w v n d) (hn : n ≤ 2147483648) :
    Calls Tryd.prog 15 #[v] w fun e w' => ∃ v', e = .returned v' ∧ Mod [] w w' ∧ SlB w' v' n d := by
  refine calls_of_CW (l := [_]) (N := 8) Tryd.func15 rfl rfl rfl ?_
  first | refine CW.seq (CW.region ?_) | refine CW.seq (CW.seq (CW.region ?_))
  refine LW.val rfl rfl (r_assign) ?_
  refine LW.nil ?_
  first | refine CW.seq (CW.region ?_) | refine CW.seq (CW.seq (CW.region ?_))
  rcases hv with (⟨c, rfl, rfl⟩ | ⟨b, o, c, rfl, hr⟩) | ⟨a2, c, rfl, rfl⟩
  · refine LW.val rfl rfl r_move ?_
    refine LW.val rfl rfl (r_slcNil rfl rfl Tryd.underlying22) ?_
    refine LW.nil ?_
    first | refine CW.cond_t rfl ?_ | refine CW.seq (CW.cond_t rfl ?_)
    first | refine CW.seq (CW.region ?_) | refine CW.seq (CW.seq (CW.region ?_))
    refine LW.val rfl rfl (r_assign) ?_
    exact LW.nil (CW.ret ⟨_, RetV.one (t := 2) rfl rfl, _, rfl, Mod.refl _ _, Or.inl ⟨_, rfl, rfl⟩⟩)
  · refine LW.val rfl rfl r_move ?_
    refine LW.val rfl rfl (r_slcNil rfl rfl Tryd.underlying22) ?_
    refine LW.nil ?_
    first | refine CW.cond_f rfl (CW.skip ?_) | refine CW.seq (CW.cond_f rfl (CW.skip ?_))
    first | refine CW.seq (CW.region ?_) | refine CW.seq (CW.seq (CW.region ?_))
    obtain ⟨e0, hbs⟩ := r_bs0 (P := Tryd.prog) (w := w) slc22
    refine LW.val rfl rfl (hbs _ _ _ _ _ _) ?_
    refine LW.val rfl rfl r_move ?_
    have hM1 := Mod.alloc w (.cells #[] e0)
    have hr1 := hM1.rd hr (by simp)
    obtain ⟨i5, hi, hsz, hby, hz⟩ := info5
    by_cases h0 : n = 0
    · subst h0
      refine LW.val rfl rfl (r_app00 (c := c) rfl rfl slc22) ?_
      refine LW.val rfl rfl (r_assign) ?_
      exact LW.nil (CW.ret ⟨_, RetV.one (t := 2) rfl rfl, _, rfl, hM1, Or.inr ⟨_, _, _, rfl, fun i hi => by omega⟩⟩)
    · obtain ⟨cap, w2, hr2, hM2, hd2⟩ := r_app0 (some ⟨w.heap.size, 0, none⟩) (c := c) (by omega) hn Tryd.underlying22 hi hz hsz hby hr1
      refine LW.val rfl rfl (hr2 _ _ _ _ _ _ _ _ rfl rfl) ?_
      refine LW.val rfl rfl (r_assign) ?_
      exact LW.nil (CW.ret ⟨_, RetV.one (t := 2) rfl rfl, _, rfl, hM1.none hM2, Or.inr ⟨_, _, _, rfl, hd2⟩⟩)
  · refine LW.val rfl rfl r_move ?_
    refine LW.val rfl rfl (r_slcNil rfl rfl Tryd.underlying22) ?_
    refine LW.nil ?_
    first | refine CW.cond_f rfl (CW.skip ?_) | refine CW.seq (CW.cond_f rfl (CW.skip ?_))
    first | refine CW.seq (CW.region ?_) | refine CW.seq (CW.seq (CW.region ?_))
    obtain ⟨e0, hbs⟩ := r_bs0 (P := Tryd.prog) (w := w) slc22
    refine LW.val rfl rfl (hbs _ _ _ _ _ _) ?_
    refine LW.val rfl rfl r_move ?_
    refine LW.val rfl rfl (r_app00 (c := c) rfl rfl slc22) ?_
    refine LW.val rfl rfl (r_assign) ?_
    exact LW.nil (CW.ret ⟨_, RetV.one (t := 2) rfl rfl, _, rfl, Mod.alloc _ _, Or.inr ⟨_, _, _, rfl, fun i hi => by omega⟩⟩)
/-- The digest of n bytes. -/
def dF (g T d : Nat → Int) (n : Nat) : DS := finF g (bufF d n) T (updF g d (nj n)) (nr n) (8 * nj n)
theorem dF_ctr (g T d : Nat → Int) {n : Nat} (hn : n ≤ 32768) : (dF g T d n).ctr < 100000 ∧ (dF g T d n).bn = 0 := by
  have h := finF_ctr g (bufF d n) T (updF g d (nj n)) (nr n) (8 * nj n)
  have h1 : f1n (nr n) ≤ 1000 := by unfold f1n nr nj; split <;> omega
  have h2 : nj n ≤ 4 := by unfold nj; omega
  exact ⟨Nat.lt_of_le_of_lt h.1 (by omega), h.2⟩
theorem digest_any (hb n : Nat) (g T d : Nat → Int) (w : World) (hB : Blk w hb 8854 (hF g d n) 56) (hT : Rd w 1 0 64 .u8 T) (h1 : hb ≠ 1) (hn : n ≤ 32768) :
    Calls Tryd.prog 12 #[.pointer (some ⟨hb, 0, none⟩)] w fun e w' => e = .returned (.pointer (some ⟨w.heap.size, 0, none⟩)) ∧ Mod [hb] w w' ∧ Blk w' w.heap.size 44 (dg (dF g T d n)) 59 := by
  refine calls_of_CW (l := [_]) (N := 8) Tryd.func12 rfl rfl rfl ?_
  first | refine CW.seq (CW.region ?_) | refine CW.seq (CW.seq (CW.region ?_))
  refine LW.val rfl rfl (r_assign) ?_
  refine LW.nil ?_
  first | refine CW.seq (CW.region ?_) | refine CW.seq (CW.seq (CW.region ?_))
  refine LW.val rfl rfl (r_alloc zeroF59) ?_
  have hMA := Mod.alloc w (.cells (Array.ofFn (n := 44) fun i => dg DS0 i.val) 59)
  have hD0 := Blk.new w 44 (dg DS0) 59
  have hne : hb ≠ w.heap.size := hB.ne (Nat.le_refl _)
  have hB1 := hMA.blk hB (by simp)
  have hT1 := hMA.rd hT (by simp)
  have hd1 : w.heap.size ≠ 1 := Ne.symm (hT.ne (by decide) (Nat.le_refl _))
  have hok := ok_upd g d (nj n)
  refine LW.nil ?_
  first | refine CW.seq (CW.region ?_) | refine CW.seq (CW.seq (CW.region ?_))
  refine LW.val rfl rfl (r_move) ?_
  refine LW.val rfl rfl (r_nil rfl) ?_
  refine LW.val rfl rfl (r_field rfl fa56_1) ?_
  refine LW.call rfl rfl (e_call en19) ?_
  refine (fin_any hb w.heap.size (nr n) (8 * nj n) g (bufF d n) T (updF g d (nj n)) _ hB1 hD0 hT1 hne h1 hd1 hok.1 hok.2 (by unfold nr nj; omega) (by unfold nj; omega)).mono ?_
  rintro e w2 ⟨rfl, hM2, hD2⟩
  refine ⟨_, rfl, ?_⟩
  refine LW.nil ?_
  first | refine CW.seq (CW.region ?_) | refine CW.seq (CW.seq (CW.region ?_))
  refine LW.val rfl rfl (r_assign) ?_
  exact LW.nil (CW.ret ⟨_, RetV.one (t := 2) rfl rfl, rfl, ((Mod.refl [hb] w).none hMA).trans hM2 (fun k hk => by simp at hk; rcases hk with h5 | h5 <;> simp [h5]), hD2⟩)
theorem one22 : OneC Tryd.prog 22 := ⟨_, Tryd.underlying22, rfl, (by kernel_rfl : (Tryd.prog.info? 22).map (·.size) = some 1)⟩
theorem slc24 : SlcAt Tryd.prog 24 1 := ⟨22, Tryd.underlying24, (by kernel_rfl : (Tryd.prog.info? 22).map (·.size) = some 1)⟩
theorem SlB.mod {T : List Nat} {w w' : World} {v : Value} {n : Nat} {d : Nat → Int} (h : SlB w v n d) (hM : Mod T w w') (hT : ∀ k, k ∈ T → w.heap.size ≤ k) : SlB w' v n d := by
  rcases h with ⟨c, rfl, rfl⟩ | ⟨b, o, c, rfl, hr⟩
  · exact Or.inl ⟨c, rfl, rfl⟩
  · refine Or.inr ⟨b, o, c, rfl, fun i hi => hM.cell (hr i hi) fun hb => ?_⟩
    have h1 := hT b hb
    have h2 := lt_of_cell (hr i hi)
    simp only at h2
    omega
theorem SlA.mod {T : List Nat} {w w' : World} {v : Value} {n : Nat} {d : Nat → Int} (h : SlA w v n d) (hM : Mod T w w') (hT : ∀ k, k ∈ T → w.heap.size ≤ k) : SlA w' v n d := h.imp (fun h => h.mod hM hT) id
theorem written_any (hb pb n : Nat) (v : Value) (g d : Nat → Int) (w : World) (hB : Blk w hb 8854 (hh 0 0 g (fun _ => 0) CS0) 56) (hP : w.cell? ⟨pb, 0, none⟩ = some v) (hv : SlA w v n d) (hn : n ≤ 32768) :
    Calls Tryd.prog 10 #[.pointer (some ⟨hb, 0, none⟩), .slice (some ⟨pb, 0, none⟩) 1 1] w fun e w' => e = .returned (.pointer (some ⟨hb, 0, none⟩)) ∧ Mod [hb] w w' ∧ Blk w' hb 8854 (hF g d n) 56 := by
  refine calls_of_CW (l := [_, _]) (N := 22) Tryd.func10 rfl rfl rfl ?_
  first | refine CW.seq (CW.region ?_) | refine CW.seq (CW.seq (CW.region ?_))
  refine LW.val rfl rfl (r_assign) ?_
  refine LW.nil ?_
  first | refine CW.seq (CW.region ?_) | refine CW.seq (CW.seq (CW.region ?_))
  refine LW.val rfl rfl (r_move) ?_
  refine LW.val rfl rfl (r_lenL (n := 1) rfl Tryd.underlying24) ?_
  refine LW.val rfl rfl (r_move) ?_
  refine LW.nil (CW.block (CW.loop (fun q E w' => Mod [hb] w w' ∧ ((q = 1 ∧ w' = w ∧ ∃ J : Env, E = tab (α := Value) J [(0, .pointer (some ⟨hb, 0, none⟩)), (7, .slice (some ⟨pb, 0, none⟩) 1 1), (8, .int .i64 1), (9, .int .i64 0)]) ∨ (∃ J : Env, E = tab (α := Value) J [(0, .pointer (some ⟨hb, 0, none⟩)), (7, .slice (some ⟨pb, 0, none⟩) 1 1), (8, .int .i64 1), (9, .int .i64 1)] ∧ Blk w' hb 8854 (hF g d n) 56))) 1 ?_ ?_))
  · exact ⟨Mod.refl _ _, Or.inl ⟨rfl, rfl, _, (tab_of_agrees (α := Value) _ [(0, .pointer (some ⟨hb, 0, none⟩)), (7, .slice (some ⟨pb, 0, none⟩) 1 1), (8, .int .i64 1), (9, .int .i64 0)] ⟨rfl, rfl, rfl, rfl, trivial⟩).symm⟩⟩
  · rintro q E w1 ⟨hM1, ⟨rfl, hw, J, rfl⟩ | ⟨J, rfl, hB1⟩⟩
    · rw [hw]
      clear hM1 hw w1
      first | refine CW.seq (CW.region ?_) | refine CW.seq (CW.seq (CW.region ?_))
      refine LW.val rfl rfl (r_lssE rfl rfl (q := true) rfl) ?_
      refine LW.nil ?_
      first | refine CW.cond_t rfl (CW.skip ?_) | refine CW.seq (CW.cond_t rfl (CW.skip ?_))
      refine CW.seq (CW.block ?_)
      first | refine CW.seq (CW.region ?_) | refine CW.seq (CW.seq (CW.region ?_))
      refine LW.val rfl rfl (r_ixs (k := 0) rfl rfl slc24 (by decide)) ?_
      refine LW.val rfl rfl (r_load (a := ⟨pb, 0 + 0, none⟩) (v := v) rfl one22 hP) ?_
      refine LW.val rfl rfl (r_assign) ?_
      refine LW.nil ?_
      refine CW.region ?_
      refine LW.val rfl rfl (r_move) ?_
      refine LW.val rfl rfl (r_move) ?_
      refine LW.call rfl rfl (e_call en15) ?_
      refine (clone_any n v d w hv (by omega)).mono ?_
      rintro e w2 ⟨v', rfl, hM2, hv2⟩
      refine ⟨_, rfl, ?_⟩
      refine LW.call rfl rfl (e_call en18) ?_
      refine (write_any hb n v' g d w2 (hM2.blk hB (by simp)) (by omega) hv2).mono ?_
      rintro e w3 ⟨rfl, hM3, hB3⟩
      refine ⟨_, rfl, ?_⟩
      refine LW.val rfl rfl (r_move) ?_
      refine LW.val rfl rfl (r_extract rfl rfl) ?_
      refine LW.val rfl rfl (r_extract rfl rfl) ?_
      refine LW.nil ?_
      refine CW.region ?_
      refine LW.val rfl rfl (r_addE rfl rfl (z := 1) (by decide)) ?_
      refine LW.val rfl rfl (r_move) ?_
      exact LW.nil ⟨0, by decide, ((Mod.refl [hb] w).none hM2).old hM3 (by simp), Or.inr ⟨_, (tab_of_agrees (α := Value) _ [(0, .pointer (some ⟨hb, 0, none⟩)), (7, .slice (some ⟨pb, 0, none⟩) 1 1), (8, .int .i64 1), (9, .int .i64 1)] ⟨rfl, rfl, rfl, rfl, trivial⟩).symm, hB3⟩⟩
    · first | refine CW.seq (CW.region ?_) | refine CW.seq (CW.seq (CW.region ?_))
      refine LW.val rfl rfl (r_lssE rfl rfl (q := false) rfl) ?_
      refine LW.nil ?_
      first | refine CW.seq (CW.cond_f rfl (CW.exit (Or.inl ⟨rfl, ?_⟩))) | refine CW.cond_f rfl (CW.exit (Or.inl ⟨rfl, ?_⟩))
      first | refine CW.seq (CW.region ?_) | refine CW.seq (CW.seq (CW.region ?_))
      refine LW.val rfl rfl (r_move) ?_
      refine LW.val rfl rfl (r_assign) ?_
      exact LW.nil (CW.ret ⟨_, RetV.one (t := 4) rfl rfl, rfl, hM1, hB1⟩)
theorem written0_any (hb : Nat) (w : World) :
    Calls Tryd.prog 10 #[.pointer (some ⟨hb, 0, none⟩), .slice none 0 0] w fun e w' => e = .returned (.pointer (some ⟨hb, 0, none⟩)) ∧ Mod [] w w' := by
  refine calls_of_CW (l := [_, _]) (N := 22) Tryd.func10 rfl rfl rfl ?_
  first | refine CW.seq (CW.region ?_) | refine CW.seq (CW.seq (CW.region ?_))
  refine LW.val rfl rfl (r_assign) ?_
  refine LW.nil ?_
  first | refine CW.seq (CW.region ?_) | refine CW.seq (CW.seq (CW.region ?_))
  refine LW.val rfl rfl (r_move) ?_
  refine LW.val rfl rfl (r_lenL (n := 0) rfl Tryd.underlying24) ?_
  refine LW.val rfl rfl (r_move) ?_
  refine LW.nil (CW.block (CW.loop (fun _ E w' => Mod [] w w' ∧ ∃ J : Env, E = tab (α := Value) J [(0, .pointer (some ⟨hb, 0, none⟩)), (7, .slice none 0 0), (8, .int .i64 0), (9, .int .i64 0)]) 1 ?_ ?_))
  · exact ⟨Mod.refl _ _, _, (tab_of_agrees (α := Value) _ [(0, .pointer (some ⟨hb, 0, none⟩)), (7, .slice none 0 0), (8, .int .i64 0), (9, .int .i64 0)] ⟨rfl, rfl, rfl, rfl, trivial⟩).symm⟩
  · rintro q E w1 ⟨hM1, J, rfl⟩
    first | refine CW.seq (CW.region ?_) | refine CW.seq (CW.seq (CW.region ?_))
    refine LW.val rfl rfl (r_lssE rfl rfl (q := false) rfl) ?_
    refine LW.nil ?_
    first | refine CW.seq (CW.cond_f rfl (CW.exit (Or.inl ⟨rfl, ?_⟩))) | refine CW.cond_f rfl (CW.exit (Or.inl ⟨rfl, ?_⟩))
    first | refine CW.seq (CW.region ?_) | refine CW.seq (CW.seq (CW.region ?_))
    refine LW.val rfl rfl (r_move) ?_
    refine LW.val rfl rfl (r_assign) ?_
    exact LW.nil (CW.ret ⟨_, RetV.one (t := 4) rfl rfl, rfl, hM1⟩)
theorem rdout_any (db n : Nat) (s : DS) (w : World) (hB : Blk w db 44 (dg s) 59) (hbn : s.bn = 0) (hc : s.ctr < 2305843009213693952) (hn : n ≤ 65536) :
    Calls Tryd.prog 9 #[.pointer (some ⟨db, 0, none⟩), .int .i64 ((n : Nat) : Int)] w fun e w' => e = .returned (.slice (some ⟨w.heap.size, 0, none⟩) n n) ∧ Mod [db] w w' ∧ Blk w' w.heap.size n (rdF s) 5 := by
  obtain ⟨i5, hi, hsz, hby, hz⟩ := info5
  refine calls_of_CW (l := [_, _]) (N := 15) Tryd.func9 rfl rfl rfl ?_
  first | refine CW.seq (CW.region ?_) | refine CW.seq (CW.seq (CW.region ?_))
  refine LW.val rfl rfl (r_assign) ?_
  refine LW.nil ?_
  first | refine CW.seq (CW.region ?_) | refine CW.seq (CW.seq (CW.region ?_))
  refine LW.val rfl rfl (r_move) ?_
  refine LW.val rfl rfl (r_make (n := n) (u := .int .u8 0) rfl Tryd.underlying22 hi hz hsz hby rfl (by omega)) ?_
  refine LW.val rfl rfl (r_assign) ?_
  have hMA := Mod.alloc w (.cells (Array.ofFn (n := n) fun i => (fun _ => Value.int .u8 0) i.val) 5)
  have hX0 := Blk.new w n (fun _ => Value.int .u8 0) 5
  have hne : db ≠ w.heap.size := hB.ne (Nat.le_refl _)
  have hB1 := hMA.blk hB (by simp)
  refine LW.nil ?_
  first | refine CW.seq (CW.region ?_) | refine CW.seq (CW.seq (CW.region ?_))
  refine LW.val rfl rfl (r_move) ?_
  refine LW.val rfl rfl (r_move) ?_
  refine LW.call rfl rfl (e_call en17) ?_
  refine (read_any db w.heap.size 0 n n n _ 5 s _ hB1 hbn hX0 (by omega) (Nat.le_refl _) hne hc (by omega)).mono ?_
  rintro e w2 ⟨rfl, hM2, hX2⟩
  refine ⟨_, rfl, ?_⟩
  refine LW.val rfl rfl (r_move) ?_
  refine LW.val rfl rfl (r_extract rfl rfl) ?_
  refine LW.val rfl rfl (r_extract rfl rfl) ?_
  refine LW.nil ?_
  first | refine CW.seq (CW.region ?_) | refine CW.seq (CW.seq (CW.region ?_))
  refine LW.val rfl rfl (r_move) ?_
  refine LW.val rfl rfl (r_assign) ?_
  exact LW.nil (CW.ret ⟨_, RetV.one (t := 4) rfl rfl, rfl, ((Mod.refl [db] w).none hMA).trans hM2 (fun k hk => by simp at hk; rcases hk with h5 | h5 <;> simp [h5]), hX2.congr fun i hi => by rw [put_in _ _ (by omega), Nat.sub_zero]⟩)
theorem hash_any (n : Nat) (pb m : Nat) (v : Value) (g T d : Nat → Int) (w : World) (hP : w.cell? ⟨pb, 0, none⟩ = some v) (hv : SlA w v m d) (hm : m ≤ 32768) (hg : Rd w 0 0 8 .u32 g) (hT : Rd w 1 0 64 .u8 T) (hn : n ≤ 4096) :
    Calls Tryd.prog 5 #[.slice (some ⟨pb, 0, none⟩) 1 1, .int .i64 ((n : Nat) : Int)] w fun e w' => ∃ gb, e = .returned (.slice (some ⟨gb, 0, none⟩) n n) ∧ Mod [] w w' ∧ w.heap.size ≤ gb ∧ Blk w' gb n (rdF (dF g T d m)) 5 := by
  refine calls_of_CW (l := [_, _]) (N := 17) Tryd.func5 rfl rfl rfl ?_
  first | refine CW.seq (CW.region ?_) | refine CW.seq (CW.seq (CW.region ?_))
  refine LW.val rfl rfl (r_assign) ?_
  refine LW.nil ?_
  first | refine CW.seq (CW.region ?_) | refine CW.seq (CW.seq (CW.region ?_))
  refine LW.val rfl rfl (r_move) ?_
  refine LW.val rfl rfl (r_lssE rfl rfl (q := false) (decide_eq_false (by omega))) ?_
  refine LW.val rfl rfl (r_move) ?_
  refine LW.gval (gyes rfl rfl rfl rfl rfl) rfl (r_move) ?_
  refine LW.gval (gyes rfl rfl rfl rfl rfl) rfl (r_gtrE rfl rfl (q := false) (decide_eq_false (by omega))) ?_
  refine LW.val rfl rfl (r_pick rfl) ?_
  refine LW.nil ?_
  first | refine CW.cond_f rfl (CW.skip ?_) | refine CW.seq (CW.cond_f rfl (CW.skip ?_))
  have h1s : 1 < w.heap.size := lt_of_cell (hT 0 (by decide))
  first | refine CW.seq (CW.region ?_) | refine CW.seq (CW.seq (CW.region ?_))
  refine LW.call rfl rfl (e_call en11) ?_
  refine (new_any g w hg).mono ?_
  rintro e w1 ⟨rfl, hM1, hB1⟩
  refine ⟨_, rfl, ?_⟩
  refine LW.val rfl rfl (r_move) ?_
  refine LW.call rfl rfl (e_call en10) ?_
  refine (written_any w.heap.size pb m v g d w1 hB1 (hM1.cell hP (by simp)) (hv.mod hM1 (by simp)) hm).mono ?_
  rintro e w2 ⟨rfl, hM2, hB2⟩
  have hT2 := hM2.rd (hM1.rd hT (by simp)) (by simp; omega)
  refine ⟨_, rfl, ?_⟩
  refine LW.call rfl rfl (e_call en12) ?_
  refine (digest_any w.heap.size m g T d w2 hB2 (hT2) (by omega) hm).mono ?_
  rintro e w3 ⟨rfl, hM3, hD3⟩
  refine ⟨_, rfl, ?_⟩
  refine LW.val rfl rfl (r_move) ?_
  refine LW.call rfl rfl (e_call en9) ?_
  refine (rdout_any w2.heap.size n (dF g T d m) w3 hD3 (dF_ctr g T d hm).2 (by have := (dF_ctr g T d hm).1; omega) (by omega)).mono ?_
  rintro e w4 ⟨rfl, hM4, hX4⟩
  refine ⟨_, rfl, ?_⟩
  refine LW.val rfl rfl (r_assign) ?_
  have hs1 := hM1.size
  have hs2 := hM2.size
  have hs3 := hM3.size
  exact LW.nil (CW.ret ⟨_, RetV.one (t := 4) rfl rfl, _, rfl, ((hM1.trans hM2 (fun k hk => by simp at hk; exact Or.inr (by omega))).trans hM3 (fun k hk => by simp at hk; exact Or.inr (by omega))).trans hM4 (fun k hk => by simp at hk; exact Or.inr (by omega)), by omega, hX4⟩)
theorem hash0_any (n : Nat) (g T : Nat → Int) (w : World) (hg : Rd w 0 0 8 .u32 g) (hT : Rd w 1 0 64 .u8 T) (hn : n ≤ 4096) :
    Calls Tryd.prog 5 #[.slice none 0 0, .int .i64 ((n : Nat) : Int)] w fun e w' => ∃ gb, e = .returned (.slice (some ⟨gb, 0, none⟩) n n) ∧ Mod [] w w' ∧ w.heap.size ≤ gb ∧ Blk w' gb n (rdF (dF g T (fun _ => 0) 0)) 5 := by
  refine calls_of_CW (l := [_, _]) (N := 17) Tryd.func5 rfl rfl rfl ?_
  first | refine CW.seq (CW.region ?_) | refine CW.seq (CW.seq (CW.region ?_))
  refine LW.val rfl rfl (r_assign) ?_
  refine LW.nil ?_
  first | refine CW.seq (CW.region ?_) | refine CW.seq (CW.seq (CW.region ?_))
  refine LW.val rfl rfl (r_move) ?_
  refine LW.val rfl rfl (r_lssE rfl rfl (q := false) (decide_eq_false (by omega))) ?_
  refine LW.val rfl rfl (r_move) ?_
  refine LW.gval (gyes rfl rfl rfl rfl rfl) rfl (r_move) ?_
  refine LW.gval (gyes rfl rfl rfl rfl rfl) rfl (r_gtrE rfl rfl (q := false) (decide_eq_false (by omega))) ?_
  refine LW.val rfl rfl (r_pick rfl) ?_
  refine LW.nil ?_
  first | refine CW.cond_f rfl (CW.skip ?_) | refine CW.seq (CW.cond_f rfl (CW.skip ?_))
  have h1s : 1 < w.heap.size := lt_of_cell (hT 0 (by decide))
  first | refine CW.seq (CW.region ?_) | refine CW.seq (CW.seq (CW.region ?_))
  refine LW.call rfl rfl (e_call en11) ?_
  refine (new_any g w hg).mono ?_
  rintro e w1 ⟨rfl, hM1, hB1⟩
  refine ⟨_, rfl, ?_⟩
  refine LW.val rfl rfl (r_move) ?_
  refine LW.call rfl rfl (e_call en10) ?_
  refine (written0_any w.heap.size w1).mono ?_
  rintro e w2 ⟨rfl, hM2⟩
  have hB2 := hM2.blk hB1 (by simp)
  rw [← hF_zero g (fun _ => 0)] at hB2
  have hT2 := hM2.rd (hM1.rd hT (by simp)) (by simp)
  refine ⟨_, rfl, ?_⟩
  refine LW.call rfl rfl (e_call en12) ?_
  refine (digest_any w.heap.size 0 g T (fun _ => 0) w2 hB2 (hT2) (by omega) (by decide)).mono ?_
  rintro e w3 ⟨rfl, hM3, hD3⟩
  refine ⟨_, rfl, ?_⟩
  refine LW.val rfl rfl (r_move) ?_
  refine LW.call rfl rfl (e_call en9) ?_
  refine (rdout_any w2.heap.size n (dF g T (fun _ => 0) 0) w3 hD3 (dF_ctr g T (fun _ => 0) (n := 0) (by decide)).2 (by have := (dF_ctr g T (fun _ => 0) (n := 0) (by decide)).1; omega) (by omega)).mono ?_
  rintro e w4 ⟨rfl, hM4, hX4⟩
  refine ⟨_, rfl, ?_⟩
  refine LW.val rfl rfl (r_assign) ?_
  have hs1 := hM1.size
  have hs2 := hM2.size
  have hs3 := hM3.size
  exact LW.nil (CW.ret ⟨_, RetV.one (t := 4) rfl rfl, _, rfl, ((hM1.none hM2).trans hM3 (fun k hk => by simp at hk; exact Or.inr (by omega))).trans hM4 (fun k hk => by simp at hk; exact Or.inr (by omega)), by omega, hX4⟩)
theorem same_any (a o c b o2 c2 k : Nat) (d : Nat → Int) (w : World) (h1 : Rd w a o k .u8 d) (h2 : Rd w b o2 k .u8 d) :
    Calls Tryd.prog 6 #[.slice (some ⟨a, o, none⟩) k c, .slice (some ⟨b, o2, none⟩) k c2] w fun e w' => e = .returned (.bool true) ∧ w' = w := by
  refine calls_of_CW (l := [_, _]) (N := 10) Tryd.func6 rfl rfl rfl ?_
  first | refine CW.seq (CW.region ?_) | refine CW.seq (CW.seq (CW.region ?_))
  refine LW.val rfl rfl (r_assign) ?_
  refine LW.nil ?_
  first | refine CW.seq (CW.region ?_) | refine CW.seq (CW.seq (CW.region ?_))
  refine LW.val rfl rfl (r_move) ?_
  refine LW.val rfl rfl (r_b2s rfl Tryd.underlying22 Tryd.underlying5 Tryd.underlying9 h1) ?_
  refine LW.val rfl rfl (r_move) ?_
  refine LW.val rfl rfl (r_b2s rfl Tryd.underlying22 Tryd.underlying5 Tryd.underlying9 h2) ?_
  refine LW.val rfl rfl (r_strEq rfl rfl) ?_
  refine LW.val rfl rfl (r_assign) ?_
  exact LW.nil (CW.ret ⟨_, RetV.one (t := 4) rfl rfl, rfl, rfl⟩)
end Go.Proofs.YtfaopfaghnefdaaDoor
