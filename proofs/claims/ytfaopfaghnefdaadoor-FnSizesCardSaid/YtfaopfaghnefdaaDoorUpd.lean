/- What a fresh hasher takes in: consume, updateString, update, Write. Conditions: the input lies in another block than the hasher; the hasher is new. -/
import Derived.Test.YtfaopfaghnefdaaDoorOps5
namespace Go.Proofs.YtfaopfaghnefdaaDoor
open Go
theorem en33 : Enters Tryd.prog 33 := ⟨_, Tryd.func33, by kernel_rfl, rfl⟩
theorem en24 : Enters Tryd.prog 24 := ⟨_, Tryd.func24, by kernel_rfl, rfl⟩
theorem en18 : Enters Tryd.prog 18 := ⟨_, Tryd.func18, by kernel_rfl, rfl⟩
theorem ZeroIs.of {P : Program} {t n : Nat} {c : Nat → Value} (h : (P.info? t).map (·.zero) = some (some (aggF n c))) : ZeroIs P t n c := ⟨_, h, rfl⟩
theorem zeroF52 : ZeroIs Tryd.prog 52 8192 (fun _ => .int .u8 0) := ZeroIs.of zero52
/-- The chunks' values as the caller reads them. -/
def hfO (D K : Nat → Int) (ctr : Nat) (flags : Int) (len : Nat) : Nat → Int := fun j => if j % 8 < hfN len then hfG D K ctr flags len (j % 8) (j / 8) else 0
theorem hfC_out (D K : Nat → Int) (ctr : Nat) (flags : Int) (len : Nat) {w : World} {xb : Nat} {te : TypeId} (h : Blk w xb 64 (hpC (fun _ => .int .u32 0) 0 (hfN len) (hfG D K ctr flags len)) te) : Rd w xb 0 64 .u32 (hfO D K ctr flags len) :=
  h.rd (by decide) fun i hi => by
    unfold hpC hfO
    by_cases hc : i % 8 < hfN len
    · rw [if_pos (by omega), if_pos hc, Nat.zero_add, Nat.sub_zero]
    · rw [if_neg (by omega), if_neg hc]
/-- Eight chunks taken in. -/
def consF (K : Nat → Int) (s : CS) (D : Nat → Int) (ch : Nat) : CS := pushNF 0 K (hfO D K ch 0 8192) s 8
theorem ok_cons {s : CS} (h : s.ok) (h8 : s.bufn < 8) (K D : Nat → Int) (ch : Nat) : (consF K s D ch).ok ∧ (consF K s D ch).bufn < 8 := ok_pushN h h8 _ _ _ 8
set_option maxHeartbeats 2000000 in
theorem cons_any (hb ib io len ch : Nat) (K B D : Nat → Int) (s : CS) (w : World) (hB : Blk w hb 8854 (hh len ch K B s) 56) (hD : Rd w ib io 8192 .u8 D) (hs : s.ok) (h8 : s.bufn < 8) (hch : ch < 4294967296) :
    Calls Tryd.prog 39 #[.pointer (some ⟨hb, 1, none⟩), .pointer (some ⟨ib, io, none⟩)] w fun e w' => e = .returned (.tuple #[]) ∧ Mod [hb] w w' ∧ Blk w' hb 8854 (hh len ch K B (consF K s D ch)) 56 := by
  refine calls_of_CW (l := [_, _]) (N := 30) Tryd.func39 rfl rfl rfl ?_
  first | refine CW.seq (CW.region ?_) | refine CW.seq (CW.seq (CW.region ?_))
  refine LW.val rfl rfl (r_alloc zeroF47) ?_
  refine LW.nil ?_
  first | refine CW.seq (CW.region ?_) | refine CW.seq (CW.seq (CW.region ?_))
  refine LW.val rfl rfl (r_alloc zeroF44) ?_
  refine LW.nil ?_
  have hMA := Mod.alloc w (.cells (Array.ofFn (n := 64) fun i => (fun _ => Value.int .u32 0) i.val) 47)
  have hX0 := Blk.new w 64 (fun _ => Value.int .u32 0) 47
  obtain ⟨xb, hxb⟩ : ∃ xb, xb = w.heap.size := ⟨_, rfl⟩
  rw [← hxb] at hX0 ⊢
  have hHX : hb ≠ xb := hB.ne (by omega)
  have hIX : ib ≠ xb := hD.ne (by decide) (by omega)
  have hB1 := hMA.blk hB (by simp)
  have hD1 := hMA.rd hD (by simp)
  have hs1 : (w.alloc (.cells (Array.ofFn (n := 64) fun i => (fun _ => Value.int .u32 0) i.val) 47)).heap.size = w.heap.size + 1 := size_alloc _ _
  have hM1 := (Mod.refl [hb] w).none hMA
  obtain ⟨w1, hw1⟩ : ∃ w1, w1 = w.alloc (.cells (Array.ofFn (n := 64) fun i => (fun _ => Value.int .u32 0) i.val) 47) := ⟨_, rfl⟩
  rw [← hw1] at hX0 hB1 hD1 hs1 hM1 ⊢
  clear hw1 hMA
  have hMA := Mod.alloc w1 (.cells (Array.ofFn (n := 8) fun i => (fun _ => Value.int .u32 0) i.val) 44)
  have hC1 := Blk.new w1 8 (fun _ => Value.int .u32 0) 44
  obtain ⟨cb, hcb⟩ : ∃ cb, cb = w1.heap.size := ⟨_, rfl⟩
  rw [← hcb] at hC1 ⊢
  have hHC : hb ≠ cb := hB1.ne (by omega)
  have hIC : ib ≠ cb := hD1.ne (by decide) (by omega)
  have hXC : xb ≠ cb := by omega
  have hB2 := hMA.blk hB1 (by simp)
  have hD2 := hMA.rd hD1 (by simp)
  have hX2 := hMA.blk hX0 (by simp)
  have hM2 := hM1.none hMA
  obtain ⟨w2, hw2⟩ : ∃ w2, w2 = w1.alloc (.cells (Array.ofFn (n := 8) fun i => (fun _ => Value.int .u32 0) i.val) 44) := ⟨_, rfl⟩
  rw [← hw2] at hC1 hB2 hD2 hX2 hM2 ⊢
  clear hw2 hMA hB1 hD1 hX0 hM1
  refine CW.seq (CW.drawn (fun w => w.cell? ⟨hb, 2, none⟩ = some (.int .u64 ((ch : Nat) : Int)) ∧ w.cell? ⟨hb, 3, none⟩ = some (.int .u32 0)) [(0, true), (1, true), (2, true), (3, true), (4, true), (5, true), (6, true), (7, true), (8, true), (9, true), (10, true), (11, true), (12, false)] mixed (by kernel_rfl) (by kernel_rfl) ?_)
  have hS : (fun w => w.cell? ⟨hb, 2, none⟩ = some (.int .u64 ((ch : Nat) : Int)) ∧ w.cell? ⟨hb, 3, none⟩ = some (.int .u32 0)) w2.drew := ⟨hB2.drew.cell (i := 2) (by decide), hB2.drew.cell (i := 3) (by decide)⟩
  refine OW.val hS rfl rfl rfl (fun _ _ => r_move) ?_
  refine OW.val hS rfl rfl rfl (fun _ _ => r_move) ?_
  refine OW.val hS rfl rfl rfl (fun _ _ => r_nil rfl) ?_
  refine OW.val hS rfl rfl rfl (fun _ _ => r_field rfl fa54_1) ?_
  refine OW.val hS rfl rfl rfl (fun _ hS => r_load (a := ⟨hb, 2, none⟩) rfl one45 hS.1) ?_
  refine OW.val hS rfl rfl rfl (fun _ _ => r_move) ?_
  refine OW.val hS rfl rfl rfl (fun _ _ => r_nil rfl) ?_
  refine OW.val hS rfl rfl rfl (fun _ _ => r_field rfl fa54_2) ?_
  refine OW.val hS rfl rfl rfl (fun _ hS => r_load (a := ⟨hb, 3, none⟩) rfl one43 hS.2) ?_
  refine OW.val hS rfl rfl rfl (fun _ _ => r_move) ?_
  refine OW.val hS rfl rfl rfl (fun _ _ => r_nil rfl) ?_
  refine OW.val hS rfl rfl rfl (fun _ _ => r_field rfl fa54_3) ?_
  refine OW.call rfl rfl rfl (e_call en26) ?_
  refine (hashf26_any ib io 8192 ch hb 4 xb 0 64 cb 0 8 _ _ 47 44 D K 0 _ hD2.drew (hB2.drew.rd (by omega) (fun k hk => hh_key len ch K B s hk)) hIX hIC hHX hHC hXC hX2.drew (by decide) hC1.drew (by decide) (by decide) (by decide) (by omega)).mono ?_
  rintro e w3 ⟨rfl, hM3, hX3, hC3⟩
  have hB3 := hM3.blk hB2.drew (by simp [hHX, hHC])
  refine ⟨_, rfl, ⟨hB3.cell (i := 2) (by decide), hB3.cell (i := 3) (by decide)⟩, ?_⟩
  refine OW.nil (CW.fresh [(0, .pointer (some ⟨hb, 1, none⟩)), (1, .pointer (some ⟨ib, io, none⟩)), (4, .pointer (some ⟨xb, 0, none⟩)), (5, .pointer (some ⟨cb, 0, none⟩))] ⟨rfl, rfl, rfl, rfl, trivial⟩ (φ := (fun w' => Mod [hb] w w' ∧ Blk w' hb 8854 (hh len ch K B s) 56 ∧ Rd w' xb 0 64 .u32 (hfO D K ch 0 8192))) ⟨hM2.drewR.trans hM3 (fun k hk => Or.inr (by simp at hk; omega)), hB3, hfC_out D K ch 0 8192 hX3⟩ ?_)
  clear hS hM2 hM3 hX2 hX3 hC1 hC3 hB2 hB3 hD2 w3
  rintro J w4 ⟨hM4, hB4, hX4⟩
  refine CW.drawn (fun w => w.cell? ⟨hb, 3, none⟩ = some (.int .u32 0)) [(0, true), (1, true), (2, true), (3, true), (4, true), (5, true), (6, true), (7, true), (8, true), (9, true), (10, false)] mixed (by kernel_rfl) (by kernel_rfl) ?_
  have hS : w4.drew.cell? ⟨hb, 3, none⟩ = some (.int .u32 0) := hB4.drew.cell (i := 3) (by decide)
  refine OW.val hS rfl rfl rfl (fun _ _ => r_move) ?_
  refine OW.val hS rfl rfl rfl (fun _ _ => r_nil rfl) ?_
  refine OW.val hS rfl rfl rfl (fun _ _ => r_field rfl fa54_4) ?_
  refine OW.val hS rfl rfl rfl (fun _ _ => r_move) ?_
  refine OW.val hS rfl rfl rfl (fun _ _ => r_nil rfl) ?_
  refine OW.val hS rfl rfl rfl (fun _ _ => r_field rfl fa54_2) ?_
  refine OW.val hS rfl rfl rfl (fun _ hS => r_load (a := ⟨hb, 3, none⟩) rfl one43 hS) ?_
  refine OW.val hS rfl rfl rfl (fun _ _ => r_move) ?_
  refine OW.val hS rfl rfl rfl (fun _ _ => r_nil rfl) ?_
  refine OW.val hS rfl rfl rfl (fun _ _ => r_field rfl fa54_3) ?_
  refine OW.call rfl rfl rfl (e_call en27) ?_
  refine (pushn_any hb xb 8 _ s 56 (hfO D K ch 0 8192) 0 K _ hB4.drew hX4.drew (Ne.symm hHX) (by decide) (fun i hi => hbase_key len ch K B hi) hs h8).mono ?_
  rintro e w5 ⟨rfl, hM5, hB5⟩
  refine ⟨_, rfl, hB5.cell (i := 3) (by decide), ?_⟩
  exact OW.nil ⟨_, RetV.none rfl, rfl, hM4.drewR.old hM5 (by simp), hB5⟩
/-- What is taken in when j blocks of 8192 bytes went straight to the stack. -/
def updF (K d : Nat → Int) : Nat → CS
  | 0 => CS0
  | j + 1 => consF K (updF K d j) (fun i => c8 (d (8192 * j + i))) (8 * j)
theorem ok_upd (K d : Nat → Int) : ∀ j, (updF K d j).ok ∧ (updF K d j).bufn < 8
  | 0 => ⟨ok_CS0, by show 0 < 8; decide⟩
  | j + 1 => ok_cons (ok_upd K d j).1 (ok_upd K d j).2 _ _ _
def nj (n : Nat) : Nat := (n - 1) / 8192
def nr (n : Nat) : Nat := n - 8192 * nj n
/-- The buffer: what is left over. -/
def bufF (d : Nat → Int) (n : Nat) : Nat → Int := bset (fun _ => 0) 0 (nr n) (fun i => c8 (d (8192 * nj n + i)))
/-- A new hasher with n bytes in it. -/
def hF (K d : Nat → Int) (n : Nat) : Nat → Value := hh (nr n) (8 * nj n) K (bufF d n) (updF K d (nj n))
theorem hF_zero (K d : Nat → Int) : hF K d 0 = hh 0 0 K (fun _ => 0) CS0 := by
  have hb : bufF d 0 = fun _ => 0 := by funext i; unfold bufF bset; rw [if_neg (by show ¬ (0 ≤ i ∧ i < 0 + 0); omega)]
  rw [hF, hb]; rfl
set_option maxHeartbeats 4000000 in
theorem upds_any (hb n : Nat) (K d : Nat → Int) (w : World) (hB : Blk w hb 8854 (hh 0 0 K (fun _ => 0) CS0) 56) (hn : n < 2147483648) :
    Calls Tryd.prog 33 #[.pointer (some ⟨hb, 1, none⟩), .string (bs d n)] w fun e w' => e = .returned (.tuple #[]) ∧ Mod [hb] w w' ∧ Blk w' hb 8854 (hF K d n) 56 := by
  refine calls_of_CW (l := [_, _]) (N := 68) Tryd.func33 rfl rfl rfl ?_
  first | refine CW.seq (CW.region ?_) | refine CW.seq (CW.seq (CW.region ?_))
  refine LW.val rfl rfl (r_assign) ?_
  refine LW.nil ?_
  refine CW.block (CW.loop (fun q E w' => Mod [hb] w w' ∧ ((∃ (j : Nat) (J : Env), j + q = nj n + 1 ∧ 1 ≤ q ∧ E = tab (α := Value) J [(0, .pointer (some ⟨hb, 1, none⟩)), (1, .string (bs (fun i => d (8192 * j + i)) (n - 8192 * j)))] ∧ Blk w' hb 8854 (hh 0 (8 * j) K (fun _ => 0) (updF K d j)) 56) ∨ (∃ (d2 : Nat → Int) (J : Env), E = tab (α := Value) J [(0, .pointer (some ⟨hb, 1, none⟩)), (1, .string (bs d2 0))] ∧ Blk w' hb 8854 (hF K d n) 56))) (nj n + 1) ?_ ?_)
  · have hd : (fun i => d (8192 * 0 + i)) = d := by funext i; rw [Nat.mul_zero, Nat.zero_add]
    have hbs : bs d n = bs (fun i => d (8192 * 0 + i)) (n - 8192 * 0) := by rw [hd]; rfl
    exact ⟨Mod.refl _ _, Or.inl ⟨0, _, by omega, by omega, (tab_of_agrees (α := Value) _ [(0, .pointer (some ⟨hb, 1, none⟩)), (1, .string (bs (fun i => d (8192 * 0 + i)) (n - 8192 * 0)))] ⟨rfl, congrArg Value.string hbs, trivial⟩).symm, hB⟩⟩
  · rintro q E w1 ⟨hM1, ⟨j, J, hq, hq1, rfl, hB1⟩ | ⟨d2, J, rfl, hB1⟩⟩
    have hnj : nj n = (n - 1) / 8192 := rfl
    by_cases hm : n - 8192 * j = 0
    · have h0 : n = 0 := by omega
      subst h0
      have hj : j = 0 := by omega
      subst hj
      first | refine CW.seq (CW.region ?_) | refine CW.seq (CW.seq (CW.region ?_))
      refine LW.val rfl rfl (r_move) ?_
      refine LW.val rfl rfl (r_lenS rfl Tryd.underlying9) ?_
      refine LW.val rfl rfl (r_gtrE rfl rfl (q := false) (decide_eq_false (by rw [bs_size]; omega))) ?_
      refine LW.nil ?_
      first | refine CW.seq (CW.cond_f rfl (CW.exit (Or.inl ⟨rfl, ?_⟩))) | refine CW.cond_f rfl (CW.exit (Or.inl ⟨rfl, ?_⟩))
      exact ⟨_, RetV.none rfl, rfl, hM1, by rw [hF_zero]; exact hB1⟩
    · first | refine CW.seq (CW.region ?_) | refine CW.seq (CW.seq (CW.region ?_))
      refine LW.val rfl rfl (r_move) ?_
      refine LW.val rfl rfl (r_lenS rfl Tryd.underlying9) ?_
      refine LW.val rfl rfl (r_gtrE rfl rfl (q := true) (decide_eq_true (by rw [bs_size]; omega))) ?_
      refine LW.nil ?_
      first | refine CW.cond_t rfl (CW.skip ?_) | refine CW.seq (CW.cond_t rfl (CW.skip ?_))
      refine CW.block ?_
      first | refine CW.seq (CW.region ?_) | refine CW.seq (CW.seq (CW.region ?_))
      refine LW.val rfl rfl (r_move) ?_
      refine LW.val rfl rfl (r_nil rfl) ?_
      refine LW.val rfl rfl (r_field rfl fa54_0) ?_
      refine LW.val rfl rfl (r_load (a := ⟨hb, 1, none⟩) (v := .int .u64 0) rfl one45 (hB1.cell (by decide))) ?_
      refine LW.val rfl rfl (r_eqlE rfl rfl (q := true) rfl) ?_
      refine LW.val rfl rfl (r_move) ?_
      refine LW.gval (gyes rfl rfl rfl rfl rfl) rfl (r_move) ?_
      refine LW.gval (gyes rfl rfl rfl rfl rfl) rfl (r_lenS rfl Tryd.underlying9) ?_
      refine LW.gval (gyes rfl rfl rfl rfl rfl) rfl (r_gtrE rfl rfl (q := decide (8192 < n - 8192 * j)) (decide_eq_decide.2 (by rw [bs_size]; omega))) ?_
      refine LW.val rfl rfl (r_pick rfl) ?_
      refine LW.nil ?_
      by_cases hbig : 8192 < n - 8192 * j
      · first | refine CW.cond_t (congrArg Value.bool (decide_eq_true hbig)) ?_ | refine CW.seq (CW.cond_t (congrArg Value.bool (decide_eq_true hbig)) ?_)
        first | refine CW.seq (CW.region ?_) | refine CW.seq (CW.seq (CW.region ?_))
        refine LW.val rfl rfl (r_alloc zeroF52) ?_
        refine LW.nil ?_
        have hMA := Mod.alloc w1 (.cells (Array.ofFn (n := 8192) fun i => (fun _ => Value.int .u8 0) i.val) 52)
        have hX0 := Blk.new w1 8192 (fun _ => Value.int .u8 0) 52
        obtain ⟨xb, hxb⟩ : ∃ xb, xb = w1.heap.size := ⟨_, rfl⟩
        rw [← hxb] at hX0 ⊢
        have hHX : hb ≠ xb := hB1.ne (by omega)
        have hwx : w.heap.size ≤ xb := by have := hM1.size; omega
        have hB2 := hMA.blk hB1 (by simp)
        have hM2 := hM1.none hMA
        obtain ⟨w2, hw2⟩ : ∃ w2, w2 = w1.alloc (.cells (Array.ofFn (n := 8192) fun i => (fun _ => Value.int .u8 0) i.val) 52) := ⟨_, rfl⟩
        rw [← hw2] at hX0 hB2 hM2 ⊢
        clear hw2 hMA
        first | refine CW.seq (CW.region ?_) | refine CW.seq (CW.seq (CW.region ?_))
        refine LW.val rfl rfl (r_arr_all rfl arr52) ?_
        refine LW.val rfl rfl (r_move) ?_
        refine LW.val rfl rfl (r_copyS (m := 8192) (n := n - 8192 * j) (d := fun i => d (8192 * j + i)) rfl rfl slc22 (Nat.min_eq_right (by omega)) hX0 (by decide)) ?_
        have hMP := Mod.putC w2 xb 0 8192 (fun i => .int .u8 (c8 ((fun i => d (8192 * j + i)) i)))
        have hX1 := hX0.putC (o := 0) (m := 8192) (f := fun i => .int .u8 (c8 ((fun i => d (8192 * j + i)) i))) (by decide)
        refine LW.nil (CW.fresh [(0, .pointer (some ⟨hb, 1, none⟩)), (1, .string (bs (fun i => d (8192 * j + i)) (n - 8192 * j))), (5, .pointer (some ⟨xb, 0, none⟩))] ⟨rfl, rfl, rfl, trivial⟩ (φ := (fun w' => Mod [hb] w w' ∧ Blk w' hb 8854 (hh 0 (8 * j) K (fun _ => 0) (updF K d j)) 56 ∧ Rd w' xb 0 8192 .u8 (fun i => c8 (d (8192 * j + i))))) ⟨hM2.fresh hMP hwx, hMP.blk hB2 (by simpa using hHX), hX1.rd (by decide) (fun i hi => put_at _ _ hi)⟩ ?_)
        clear hM2 hMP hB2 hX0 hX1 hM1 hB1 hxb w1 w2 J
        rintro J w1 ⟨hM1, hB1, hX1⟩
        first | refine CW.seq (CW.region ?_) | refine CW.seq (CW.seq (CW.region ?_))
        refine LW.val rfl rfl (r_assign) ?_
        refine LW.nil ?_
        refine CW.region ?_
        refine LW.val rfl rfl (r_move) ?_
        refine LW.val rfl rfl (r_strL (l := 8192) rfl rfl Tryd.underlying9 (by omega)) ?_
        refine LW.val rfl rfl (r_assign) ?_
        refine LW.nil ?_
        first | refine CW.seq (CW.region ?_) | refine CW.seq (CW.seq (CW.region ?_))
        refine LW.val rfl rfl (r_move) ?_
        refine LW.val rfl rfl (r_move) ?_
        refine LW.call rfl rfl (e_call en39) ?_
        refine (cons_any hb xb 0 0 (8 * j) K _ (fun i => c8 (d (8192 * j + i))) (updF K d j) w1 hB1 hX1 (ok_upd K d j).1 (ok_upd K d j).2 (by omega)).mono ?_
        rintro e w2 ⟨rfl, hM2, hB2⟩
        refine ⟨_, rfl, ?_⟩
        have hM3 := hM1.old hM2 (by simp)
        clear hM1 hM2 hB1 hX1
        refine LW.nil ?_
        first | refine CW.seq (CW.region ?_) | refine CW.seq (CW.seq (CW.region ?_))
        refine LW.val rfl rfl (r_move) ?_
        refine LW.val rfl rfl (r_nil rfl) ?_
        refine LW.val rfl rfl (r_field rfl fa54_0) ?_
        refine LW.eff rfl rfl (r_storeB (i := 1) rfl rfl one45 rfl hB2 (by decide)) ?_
        have hB3 := hB2.set (i := 1) (.int .u64 ((0 : Nat) : Int)) (by decide)
        rw [hh_setLen] at hB3
        refine LW.nil ?_
        refine CW.region ?_
        refine LW.val rfl rfl (r_move) ?_
        refine LW.val rfl rfl (r_nil rfl) ?_
        refine LW.val rfl rfl (r_field rfl fa54_1) ?_
        refine LW.val rfl rfl (r_load (a := ⟨hb, 2, none⟩) (v := .int .u64 ((8 * j : Nat) : Int)) rfl one45 (hB3.cell (by decide))) ?_
        refine LW.val rfl rfl (r_addE rfl rfl (wN (m := 8 * (j + 1)) (by omega) (by omega))) ?_
        refine LW.val rfl rfl (r_nil rfl) ?_
        refine LW.val rfl rfl (r_field rfl fa54_1) ?_
        refine LW.eff rfl rfl (r_storeB (i := 2) rfl rfl one45 rfl hB3 (by decide)) ?_
        have hB4 := hB3.set (i := 2) (.int .u64 ((8 * (j + 1) : Nat) : Int)) (by decide)
        rw [hh_setCh] at hB4
        have hbs : bs (fun i => d (8192 * j + (8192 + i))) (n - 8192 * j - 8192) = bs (fun i => d (8192 * (j + 1) + i)) (n - 8192 * (j + 1)) := by
          rw [show (fun i => d (8192 * (j + 1) + i)) = fun i => d (8192 * j + (8192 + i)) by funext i; congr 1; omega, show n - 8192 * (j + 1) = n - 8192 * j - 8192 by omega]
        exact LW.nil ⟨q - 1, by omega, (hM3.old (Mod.set _ hb _ _) (by simp)).old (Mod.set _ hb _ _) (by simp), Or.inl ⟨j + 1, _, by omega, by omega, (tab_of_agrees (α := Value) _ [(0, .pointer (some ⟨hb, 1, none⟩)), (1, .string (bs (fun i => d (8192 * (j + 1) + i)) (n - 8192 * (j + 1))))] ⟨rfl, congrArg Value.string hbs, trivial⟩).symm, hB4⟩⟩
      · have hj : j = nj n := by omega
        first | refine CW.cond_f (congrArg Value.bool (decide_eq_false hbig)) ?_ | refine CW.seq (CW.cond_f (congrArg Value.bool (decide_eq_false hbig)) ?_)
        first | refine CW.seq (CW.region ?_) | refine CW.seq (CW.seq (CW.region ?_))
        refine LW.val rfl rfl (r_move) ?_
        refine LW.val rfl rfl (r_nil rfl) ?_
        refine LW.val rfl rfl (r_field rfl fa54_0) ?_
        refine LW.val rfl rfl (r_load (a := ⟨hb, 1, none⟩) (v := .int .u64 0) rfl one45 (hB1.cell (by decide))) ?_
        refine LW.val rfl rfl (r_lssE rfl rfl (q := true) rfl) ?_
        refine LW.nil ?_
        first | refine CW.cond_t rfl ?_ | refine CW.seq (CW.cond_t rfl ?_)
        have hB2 := hB1.drew.putC (o := 662 + 0) (m := n - 8192 * j) (f := (fun i => .int .u8 (c8 ((fun i => d (8192 * j + i)) i)))) (by omega)
        rw [hh_setBuf] at hB2
        have hS : (fun w => w.cell? ⟨hb, 1, none⟩ = some (.int .u64 0)) w1.drew := hB1.drew.cell (i := 1) (by decide)
        have hMP := Mod.putC w1.drew hb 662 (n - 8192 * j) (fun i => .int .u8 (c8 ((fun i => d (8192 * j + i)) i)))
        have hS1 : (fun w => w.cell? ⟨hb, 1, none⟩ = some (.int .u64 0)) (putC w1.drew hb 662 (n - 8192 * j) (fun i => .int .u8 (c8 ((fun i => d (8192 * j + i)) i)))) := hB2.cell (i := 1) (by decide)
        refine CW.seq (CW.drawn (fun w => w.cell? ⟨hb, 1, none⟩ = some (.int .u64 0)) [(0, true), (1, true), (2, true), (3, true), (4, true), (5, true), (6, true), (7, true), (8, true), (9, false), (10, true)] mixed (by kernel_rfl) (by kernel_rfl) ?_)
        refine OW.val hS rfl rfl rfl (fun _ _ => r_move) ?_
        refine OW.val hS rfl rfl rfl (fun _ _ => r_nil rfl) ?_
        refine OW.val hS rfl rfl rfl (fun _ _ => r_field rfl fa54_5) ?_
        refine OW.val hS rfl rfl rfl (fun _ _ => r_move) ?_
        refine OW.val hS rfl rfl rfl (fun _ _ => r_nil rfl) ?_
        refine OW.val hS rfl rfl rfl (fun _ _ => r_field rfl fa54_0) ?_
        refine OW.val hS rfl rfl rfl (fun _ hS => r_load (a := ⟨hb, 1, none⟩) rfl one45 hS) ?_
        refine OW.val hS rfl rfl rfl (fun _ _ => r_arr_l (n := 8192) (es := 1) (l := 0) rfl rfl arr52 (by decide) (by decide)) ?_
        refine OW.val hS rfl rfl rfl (fun _ _ => r_move) ?_
        refine OW.act rfl rfl rfl (r_copyS (o := 662) (m := n - 8192 * j) (n := n - 8192 * j) (d := fun i => d (8192 * j + i)) rfl rfl slc22 (Nat.min_eq_left (by show n - 8192 * j ≤ 8192 - 0; omega)) hB1.drew (by omega)) hS1 ?_
        refine OW.val hS1 rfl rfl rfl (fun _ _ => r_assign) ?_
        refine OW.nil (CW.fresh [(0, .pointer (some ⟨hb, 1, none⟩)), (1, .string (bs (fun i => d (8192 * j + i)) (n - 8192 * j))), (6, .int .i64 ((n - 8192 * j : Nat) : Int))] ⟨rfl, rfl, rfl, trivial⟩ (φ := (fun w' => Mod [hb] w w' ∧ Blk w' hb 8854 (hh 0 (8 * j) K (bset (fun _ => 0) 0 (n - 8192 * j) (fun i => c8 (d (8192 * j + i)))) (updF K d j)) 56)) ⟨hM1.drewR.old hMP (by simp), hB2⟩ ?_)
        clear hS hS1 hMP hB2 hM1 hB1 w1 J
        rintro J w1 ⟨hM1, hB1⟩
        first | refine CW.seq (CW.region ?_) | refine CW.seq (CW.seq (CW.region ?_))
        refine LW.val rfl rfl (r_move) ?_
        refine LW.val rfl rfl (r_nil rfl) ?_
        refine LW.val rfl rfl (r_field rfl fa54_0) ?_
        refine LW.val rfl rfl (r_load (a := ⟨hb, 1, none⟩) (v := .int .u64 0) rfl one45 (hB1.cell (by decide))) ?_
        refine LW.val rfl rfl (r_move) ?_
        refine LW.val rfl rfl (r_convE int3 int45 rfl (wN (m := n - 8192 * j) rfl (by omega))) ?_
        refine LW.val rfl rfl (r_addE rfl rfl (wN (m := n - 8192 * j) (by omega) (by omega))) ?_
        refine LW.val rfl rfl (r_nil rfl) ?_
        refine LW.val rfl rfl (r_field rfl fa54_0) ?_
        refine LW.eff rfl rfl (r_storeB (i := 1) rfl rfl one45 rfl hB1 (by decide)) ?_
        have hB2 := hB1.set (i := 1) (.int .u64 ((n - 8192 * j : Nat) : Int)) (by decide)
        rw [hh_setLen] at hB2
        refine LW.nil ?_
        first | refine CW.seq (CW.region ?_) | refine CW.seq (CW.seq (CW.region ?_))
        refine LW.val rfl rfl (r_move) ?_
        refine LW.val rfl rfl (r_move) ?_
        refine LW.val rfl rfl (r_strL (l := n - 8192 * j) rfl rfl Tryd.underlying9 (Nat.le_refl _)) ?_
        refine LW.val rfl rfl (r_assign) ?_
        refine LW.nil (CW.exit (Or.inl ⟨rfl, ?_⟩))
        subst hj
        rw [Nat.sub_self]
        exact ⟨0, by omega, hM1.old (Mod.set _ hb _ _) (by simp), Or.inr ⟨_, _, (tab_of_agrees (α := Value) _ [(0, .pointer (some ⟨hb, 1, none⟩)), (1, .string (bs (fun i => d (8192 * nj n + (n - 8192 * nj n + i))) 0))] ⟨rfl, rfl, trivial⟩).symm, hB2⟩⟩
    first | refine CW.seq (CW.region ?_) | refine CW.seq (CW.seq (CW.region ?_))
    refine LW.val rfl rfl (r_move) ?_
    refine LW.val rfl rfl (r_lenS rfl Tryd.underlying9) ?_
    refine LW.val rfl rfl (r_gtrE rfl rfl (q := false) (decide_eq_false (by rw [bs_size]; decide))) ?_
    refine LW.nil ?_
    first | refine CW.seq (CW.cond_f rfl (CW.exit (Or.inl ⟨rfl, ?_⟩))) | refine CW.cond_f rfl (CW.exit (Or.inl ⟨rfl, ?_⟩))
    exact ⟨_, RetV.none rfl, rfl, hM1, hB1⟩
/-- n bytes as a slice: nil, or cells that are there. -/
def SlB (w : World) (v : Value) (n : Nat) (d : Nat → Int) : Prop := (∃ c, v = .slice none 0 c ∧ n = 0) ∨ ∃ b o c, v = .slice (some ⟨b, o, none⟩) n c ∧ Rd w b o n .u8 d
theorem update_any (hb n : Nat) (v : Value) (K d : Nat → Int) (w : World) (hB : Blk w hb 8854 (hh 0 0 K (fun _ => 0) CS0) 56) (hn : n < 2147483648) (hv : SlB w v n d) :
    Calls Tryd.prog 24 #[.pointer (some ⟨hb, 1, none⟩), v] w fun e w' => e = .returned (.tuple #[]) ∧ Mod [hb] w w' ∧ Blk w' hb 8854 (hF K d n) 56 := by
  refine calls_of_CW (l := [_, _]) (N := 8) Tryd.func24 rfl rfl rfl ?_
  rcases hv with ⟨c, rfl, rfl⟩ | ⟨b, o, c, rfl, hr⟩
  · refine CW.region ?_
    refine LW.val rfl rfl (r_move) ?_
    refine LW.val rfl rfl (r_move) ?_
    refine LW.val rfl rfl (r_b2s0 rfl Tryd.underlying22 Tryd.underlying5 Tryd.underlying9) ?_
    refine LW.call rfl rfl (e_call en33) ?_
    refine (upds_any hb _ K (fun _ => 0) w hB hn).mono ?_
    rintro e w' ⟨rfl, hM, hB'⟩
    refine ⟨_, rfl, ?_⟩
    exact LW.nil ⟨_, RetV.none rfl, rfl, hM, by rw [hF_zero] at hB' ⊢; exact hB'⟩
  · refine CW.region ?_
    refine LW.val rfl rfl (r_move) ?_
    refine LW.val rfl rfl (r_move) ?_
    refine LW.val rfl rfl (r_b2s rfl Tryd.underlying22 Tryd.underlying5 Tryd.underlying9 hr) ?_
    refine LW.call rfl rfl (e_call en33) ?_
    refine (upds_any hb _ K d w hB hn).mono ?_
    rintro e w' ⟨rfl, hM, hB'⟩
    refine ⟨_, rfl, ?_⟩
    exact LW.nil ⟨_, RetV.none rfl, rfl, hM, hB'⟩
theorem SlB.lenE {w : World} {v : Value} {n : Nat} {d : Nat → Int} (h : SlB w v n d) : ∃ a c, v = .slice a n c := by
  rcases h with ⟨c, rfl, rfl⟩ | ⟨b, o, c, rfl, _⟩
  · exact ⟨_, _, rfl⟩
  · exact ⟨_, _, rfl⟩
theorem write_any (hb n : Nat) (v : Value) (K d : Nat → Int) (w : World) (hB : Blk w hb 8854 (hh 0 0 K (fun _ => 0) CS0) 56) (hn : n < 2147483648) (hv : SlB w v n d) :
    Calls Tryd.prog 18 #[.pointer (some ⟨hb, 0, none⟩), v] w fun e w' => e = .returned (.tuple #[.int .i64 ((n : Nat) : Int), .nilIface]) ∧ Mod [hb] w w' ∧ Blk w' hb 8854 (hF K d n) 56 := by
  refine calls_of_CW (l := [_, _]) (N := 13) Tryd.func18 rfl rfl rfl ?_
  first | refine CW.seq (CW.region ?_) | refine CW.seq (CW.seq (CW.region ?_))
  refine LW.val rfl rfl (r_assign) ?_
  refine LW.val rfl rfl (r_assign) ?_
  refine LW.nil ?_
  first | refine CW.seq (CW.region ?_) | refine CW.seq (CW.seq (CW.region ?_))
  refine LW.val rfl rfl (r_move) ?_
  refine LW.val rfl rfl (r_nil rfl) ?_
  refine LW.val rfl rfl (r_field rfl fa56_1) ?_
  refine LW.val rfl rfl (r_move) ?_
  refine LW.call rfl rfl (e_call en24) ?_
  refine (update_any hb n v K d w hB hn hv).mono ?_
  rintro e w' ⟨rfl, hM, hB'⟩
  refine ⟨_, rfl, ?_⟩
  obtain ⟨a, c, hvE⟩ := hv.lenE
  refine LW.nil ?_
  first | refine CW.seq (CW.region ?_) | refine CW.seq (CW.seq (CW.region ?_))
  refine LW.val rfl rfl (r_move) ?_
  refine LW.val rfl rfl (r_lenL (a := a) (n := n) (c := c) hvE Tryd.underlying22) ?_
  refine LW.val rfl rfl (r_assign) ?_
  refine LW.val rfl rfl (r_assign) ?_
  exact LW.nil (CW.ret ⟨_, RetV.two (t := 4) (u := 5) rfl rfl rfl, rfl, hM, hB'⟩)
end Go.Proofs.YtfaopfaghnefdaaDoor
