/- The digest's state, and what is read out of it: fillBuf, slowCopy, Read. Conditions: a digest of which nothing was read; what is read into lies in another block. -/
import Derived.Test.YtfaopfaghnefdaaDoorUpd
namespace Go.Proofs.YtfaopfaghnefdaaDoor
open Go
theorem en31' : Enters Tryd.prog 31 := en31
theorem en23 : Enters Tryd.prog 23 := ⟨_, Tryd.func23, by kernel_rfl, rfl⟩
theorem en22 : Enters Tryd.prog 22 := ⟨_, Tryd.func22, by kernel_rfl, rfl⟩
theorem en21 : Enters Tryd.prog 21 := ⟨_, Tryd.func21, by kernel_rfl, rfl⟩
theorem en17 : Enters Tryd.prog 17 := ⟨_, Tryd.func17, by kernel_rfl, rfl⟩
structure DS where
  ctr : Nat
  ch : Nat → Int
  bl : Nat → Int
  blen : Int
  fl : Int
  bf : Nat → Int
  bn : Nat
/-- A digest's cells. -/
def dg (s : DS) : Nat → Value := fun j =>
  if j = 0 then .int .u64 ((s.ctr : Nat) : Int) else if j < 9 then .int .u32 (s.ch (j - 1)) else if j < 25 then .int .u32 (s.bl (j - 9)) else if j = 25 then .int .u32 s.blen
  else if j = 26 then .int .u32 s.fl else if j < 43 then .int .u32 (s.bf (j - 27)) else if j = 43 then .int .i64 ((s.bn : Nat) : Int) else undef
section
variable (s : DS)
theorem dg_ctr : dg s 0 = .int .u64 ((s.ctr : Nat) : Int) := rfl
theorem dg_ch {i : Nat} (h : i < 8) : dg s (1 + i) = .int .u32 (s.ch i) := by unfold dg; rw [if_neg (by omega), if_pos (by omega), show 1 + i - 1 = i by omega]
theorem dg_bl {i : Nat} (h : i < 16) : dg s (9 + i) = .int .u32 (s.bl i) := by unfold dg; rw [if_neg (by omega), if_neg (by omega), if_pos (by omega), show 9 + i - 9 = i by omega]
theorem dg_blen : dg s 25 = .int .u32 s.blen := rfl
theorem dg_fl : dg s 26 = .int .u32 s.fl := rfl
theorem dg_bf {i : Nat} (h : i < 16) : dg s (27 + i) = .int .u32 (s.bf i) := by unfold dg; rw [if_neg (by omega), if_neg (by omega), if_neg (by omega), if_neg (by omega), if_neg (by omega), if_pos (by omega), show 27 + i - 27 = i by omega]
theorem dg_bn : dg s 43 = .int .i64 ((s.bn : Nat) : Int) := rfl
theorem dg_hi {j : Nat} (h : 43 < j) : dg s j = undef := by unfold dg; rw [if_neg (by omega), if_neg (by omega), if_neg (by omega), if_neg (by omega), if_neg (by omega), if_neg (by omega), if_neg (by omega)]
theorem dg_ext {f g : Nat → Value} (h0 : f 0 = g 0) (h1 : ∀ i, i < 8 → f (1 + i) = g (1 + i)) (h2 : ∀ i, i < 16 → f (9 + i) = g (9 + i)) (h3 : f 25 = g 25) (h4 : f 26 = g 26) (h5 : ∀ i, i < 16 → f (27 + i) = g (27 + i)) (h6 : f 43 = g 43) (h7 : ∀ j, 43 < j → f j = g j) : f = g := by
  funext j
  by_cases a0 : j = 0
  · subst a0; exact h0
  by_cases a1 : j < 9
  · have := h1 (j - 1) (by omega); rwa [show 1 + (j - 1) = j by omega] at this
  by_cases a2 : j < 25
  · have := h2 (j - 9) (by omega); rwa [show 9 + (j - 9) = j by omega] at this
  by_cases a3 : j = 25
  · subst a3; exact h3
  by_cases a4 : j = 26
  · subst a4; exact h4
  by_cases a5 : j < 43
  · have := h5 (j - 27) (by omega); rwa [show 27 + (j - 27) = j by omega] at this
  by_cases a6 : j = 43
  · subst a6; exact h6
  · exact h7 j (by omega)

theorem dg_setCtr (x : Nat) : upd (dg s) 0 (.int .u64 ((x : Nat) : Int)) = dg { s with ctr := x } := by
  refine dg_ext ?_ (fun i h => ?_) (fun i h => ?_) ?_ ?_ (fun i h => ?_) ?_ (fun j h => ?_)
  · rw [upd_same]; rfl
  · rw [upd_other _ _ (by omega), dg_ch _ h, dg_ch _ h]
  · rw [upd_other _ _ (by omega), dg_bl _ h, dg_bl _ h]
  · rw [upd_other _ _ (by decide)]; rfl
  · rw [upd_other _ _ (by decide)]; rfl
  · rw [upd_other _ _ (by omega), dg_bf _ h, dg_bf _ h]
  · rw [upd_other _ _ (by decide)]; rfl
  · rw [upd_other _ _ (by omega), dg_hi _ h, dg_hi _ h]
theorem dg_setBlen (x : Int) : upd (dg s) 25 (.int .u32 x) = dg { s with blen := x } := by
  refine dg_ext ?_ (fun i h => ?_) (fun i h => ?_) ?_ ?_ (fun i h => ?_) ?_ (fun j h => ?_)
  · rw [upd_other _ _ (by decide)]; rfl
  · rw [upd_other _ _ (by omega), dg_ch _ h, dg_ch _ h]
  · rw [upd_other _ _ (by omega), dg_bl _ h, dg_bl _ h]
  · rw [upd_same]; rfl
  · rw [upd_other _ _ (by decide)]; rfl
  · rw [upd_other _ _ (by omega), dg_bf _ h, dg_bf _ h]
  · rw [upd_other _ _ (by decide)]; rfl
  · rw [upd_other _ _ (by omega), dg_hi _ h, dg_hi _ h]
theorem dg_setFl (x : Int) : upd (dg s) 26 (.int .u32 x) = dg { s with fl := x } := by
  refine dg_ext ?_ (fun i h => ?_) (fun i h => ?_) ?_ ?_ (fun i h => ?_) ?_ (fun j h => ?_)
  · rw [upd_other _ _ (by decide)]; rfl
  · rw [upd_other _ _ (by omega), dg_ch _ h, dg_ch _ h]
  · rw [upd_other _ _ (by omega), dg_bl _ h, dg_bl _ h]
  · rw [upd_other _ _ (by decide)]; rfl
  · rw [upd_same]; rfl
  · rw [upd_other _ _ (by omega), dg_bf _ h, dg_bf _ h]
  · rw [upd_other _ _ (by decide)]; rfl
  · rw [upd_other _ _ (by omega), dg_hi _ h, dg_hi _ h]
theorem dg_setBn (x : Nat) : upd (dg s) 43 (.int .i64 ((x : Nat) : Int)) = dg { s with bn := x } := by
  refine dg_ext ?_ (fun i h => ?_) (fun i h => ?_) ?_ ?_ (fun i h => ?_) ?_ (fun j h => ?_)
  · rw [upd_other _ _ (by decide)]; rfl
  · rw [upd_other _ _ (by omega), dg_ch _ h, dg_ch _ h]
  · rw [upd_other _ _ (by omega), dg_bl _ h, dg_bl _ h]
  · rw [upd_other _ _ (by decide)]; rfl
  · rw [upd_other _ _ (by decide)]; rfl
  · rw [upd_other _ _ (by omega), dg_bf _ h, dg_bf _ h]
  · rw [upd_same]; rfl
  · rw [upd_other _ _ (by omega), dg_hi _ h, dg_hi _ h]
theorem dg_setCh (x : Nat → Int) : put (dg s) 1 8 (fun i => .int .u32 (x i)) = dg { s with ch := x } := by
  refine dg_ext ?_ (fun i h => ?_) (fun i h => ?_) ?_ ?_ (fun i h => ?_) ?_ (fun j h => ?_)
  · rw [put_out _ _ (by decide)]; rfl
  · rw [put_in _ _ (by omega), dg_ch _ h, show 1 + i - 1 = i by omega]
  · rw [put_out _ _ (by omega), dg_bl _ h, dg_bl _ h]
  · rw [put_out _ _ (by decide)]; rfl
  · rw [put_out _ _ (by decide)]; rfl
  · rw [put_out _ _ (by omega), dg_bf _ h, dg_bf _ h]
  · rw [put_out _ _ (by decide)]; rfl
  · rw [put_out _ _ (by omega), dg_hi _ h, dg_hi _ h]
theorem dg_setBl (x : Nat → Int) : put (dg s) 9 16 (fun i => .int .u32 (x i)) = dg { s with bl := x } := by
  refine dg_ext ?_ (fun i h => ?_) (fun i h => ?_) ?_ ?_ (fun i h => ?_) ?_ (fun j h => ?_)
  · rw [put_out _ _ (by decide)]; rfl
  · rw [put_out _ _ (by omega), dg_ch _ h, dg_ch _ h]
  · rw [put_in _ _ (by omega), dg_bl _ h, show 9 + i - 9 = i by omega]
  · rw [put_out _ _ (by decide)]; rfl
  · rw [put_out _ _ (by decide)]; rfl
  · rw [put_out _ _ (by omega), dg_bf _ h, dg_bf _ h]
  · rw [put_out _ _ (by decide)]; rfl
  · rw [put_out _ _ (by omega), dg_hi _ h, dg_hi _ h]
theorem dg_setBf (x : Nat → Int) : put (dg s) 27 16 (fun i => .int .u32 (x i)) = dg { s with bf := x } := by
  refine dg_ext ?_ (fun i h => ?_) (fun i h => ?_) ?_ ?_ (fun i h => ?_) ?_ (fun j h => ?_)
  · rw [put_out _ _ (by decide)]; rfl
  · rw [put_out _ _ (by omega), dg_ch _ h, dg_ch _ h]
  · rw [put_out _ _ (by omega), dg_bl _ h, dg_bl _ h]
  · rw [put_out _ _ (by decide)]; rfl
  · rw [put_out _ _ (by decide)]; rfl
  · rw [put_in _ _ (by omega), dg_bf _ h, show 27 + i - 27 = i by omega]
  · rw [put_out _ _ (by decide)]; rfl
  · rw [put_out _ _ (by omega), dg_hi _ h, dg_hi _ h]
theorem dg_setBlL (x : Nat → Int) : put (dg s) 9 8 (fun i => .int .u32 (x i)) = dg { s with bl := fun i => if i < 8 then x i else s.bl i } := by
  refine dg_ext ?_ (fun i h => ?_) (fun i h => ?_) ?_ ?_ (fun i h => ?_) ?_ (fun j h => ?_)
  · rw [put_out _ _ (by decide)]; rfl
  · rw [put_out _ _ (by omega), dg_ch _ h, dg_ch _ h]
  · rw [dg_bl _ h]
    by_cases hi : i < 8
    · rw [put_in _ _ (by omega)]; simp only [if_pos hi, show 9 + i - 9 = i by omega]
    · rw [put_out _ _ (by omega), dg_bl _ h]; simp only [if_neg hi]
  · rw [put_out _ _ (by decide)]; rfl
  · rw [put_out _ _ (by decide)]; rfl
  · rw [put_out _ _ (by omega), dg_bf _ h, dg_bf _ h]
  · rw [put_out _ _ (by decide)]; rfl
  · rw [put_out _ _ (by omega), dg_hi _ h, dg_hi _ h]
theorem dg_setBlR (x : Nat → Int) : put (dg s) 17 8 (fun i => .int .u32 (x i)) = dg { s with bl := fun i => if 8 ≤ i then x (i - 8) else s.bl i } := by
  refine dg_ext ?_ (fun i h => ?_) (fun i h => ?_) ?_ ?_ (fun i h => ?_) ?_ (fun j h => ?_)
  · rw [put_out _ _ (by decide)]; rfl
  · rw [put_out _ _ (by omega), dg_ch _ h, dg_ch _ h]
  · rw [dg_bl _ h]
    by_cases hi : 8 ≤ i
    · rw [put_in _ _ (by omega)]; simp only [if_pos hi, show 9 + i - 17 = i - 8 by omega]
    · rw [put_out _ _ (by omega), dg_bl _ h]; simp only [if_neg hi]
  · rw [put_out _ _ (by decide)]; rfl
  · rw [put_out _ _ (by decide)]; rfl
  · rw [put_out _ _ (by omega), dg_bf _ h, dg_bf _ h]
  · rw [put_out _ _ (by decide)]; rfl
  · rw [put_out _ _ (by omega), dg_hi _ h, dg_hi _ h]
end
/-- One more block of output. -/
def fillF (s : DS) : DS := { s with bf := compF s.ch s.bl s.ctr s.blen s.fl, ctr := s.ctr + 1, bn := 64 }
theorem fill_any (db : Nat) (s : DS) (w : World) (hB : Blk w db 44 (dg s) 59) (hc : s.ctr < 4611686018427387904) :
    Calls Tryd.prog 22 #[.pointer (some ⟨db, 0, none⟩)] w fun e w' => e = .returned (.tuple #[]) ∧ Mod [db] w w' ∧ Blk w' db 44 (dg (fillF s)) 59 := by
  refine calls_of_CW (l := [_]) (N := 34) Tryd.func22 rfl rfl rfl ?_
  refine CW.seq (CW.drawn (fun w => w.cell? ⟨db, 0, none⟩ = some (.int .u64 ((s.ctr : Nat) : Int)) ∧ w.cell? ⟨db, 25, none⟩ = some (.int .u32 s.blen) ∧ w.cell? ⟨db, 26, none⟩ = some (.int .u32 s.fl)) [(0, true), (1, true), (2, true), (3, true), (4, true), (5, true), (6, true), (7, true), (8, true), (9, true), (10, true), (11, true), (12, true), (13, true), (14, true), (15, true), (16, true), (17, true), (18, true), (19, true), (20, true), (21, false)] mixed (by kernel_rfl) (by kernel_rfl) ?_)
  have hS : (fun w => w.cell? ⟨db, 0, none⟩ = some (.int .u64 ((s.ctr : Nat) : Int)) ∧ w.cell? ⟨db, 25, none⟩ = some (.int .u32 s.blen) ∧ w.cell? ⟨db, 26, none⟩ = some (.int .u32 s.fl)) w.drew := ⟨hB.drew.cell (i := 0) (by decide), hB.drew.cell (i := 25) (by decide), hB.drew.cell (i := 26) (by decide)⟩
  refine OW.val hS rfl rfl rfl (fun _ _ => r_move) ?_
  refine OW.val hS rfl rfl rfl (fun _ _ => r_nil rfl) ?_
  refine OW.val hS rfl rfl rfl (fun _ _ => r_field rfl fa59_1) ?_
  refine OW.val hS rfl rfl rfl (fun _ _ => r_move) ?_
  refine OW.val hS rfl rfl rfl (fun _ _ => r_nil rfl) ?_
  refine OW.val hS rfl rfl rfl (fun _ _ => r_field rfl fa59_2) ?_
  refine OW.val hS rfl rfl rfl (fun _ _ => r_move) ?_
  refine OW.val hS rfl rfl rfl (fun _ _ => r_nil rfl) ?_
  refine OW.val hS rfl rfl rfl (fun _ _ => r_field rfl fa59_0) ?_
  refine OW.val hS rfl rfl rfl (fun _ hS => r_load (a := ⟨db, 0, none⟩) rfl one45 hS.1) ?_
  refine OW.val hS rfl rfl rfl (fun _ _ => r_move) ?_
  refine OW.val hS rfl rfl rfl (fun _ _ => r_nil rfl) ?_
  refine OW.val hS rfl rfl rfl (fun _ _ => r_field rfl fa59_3) ?_
  refine OW.val hS rfl rfl rfl (fun _ hS => r_load (a := ⟨db, 25, none⟩) rfl one43 hS.2.1) ?_
  refine OW.val hS rfl rfl rfl (fun _ _ => r_move) ?_
  refine OW.val hS rfl rfl rfl (fun _ _ => r_nil rfl) ?_
  refine OW.val hS rfl rfl rfl (fun _ _ => r_field rfl fa59_4) ?_
  refine OW.val hS rfl rfl rfl (fun _ hS => r_load (a := ⟨db, 26, none⟩) rfl one43 hS.2.2) ?_
  refine OW.val hS rfl rfl rfl (fun _ _ => r_move) ?_
  refine OW.val hS rfl rfl rfl (fun _ _ => r_nil rfl) ?_
  refine OW.val hS rfl rfl rfl (fun _ _ => r_field rfl fa59_5) ?_
  refine OW.call rfl rfl rfl (e_call en31) ?_
  refine (comp31_any db 1 db 9 db 27 44 (dg s) 59 s.ch s.bl s.ctr s.blen s.fl _ (hB.drew.rd (by decide) (fun i hi => dg_ch s hi)) (hB.drew.rd (by decide) (fun i hi => dg_bl s hi)) hB.drew (by decide) (Or.inr (Or.inl (by decide))) (Or.inr (Or.inl (by decide)))).mono ?_
  rintro e w1 ⟨rfl, hM1, hB1⟩
  rw [dg_setBf] at hB1
  refine ⟨_, rfl, ⟨hB1.cell (i := 0) (by decide), hB1.cell (i := 25) (by decide), hB1.cell (i := 26) (by decide)⟩, ?_⟩
  refine OW.nil ?_
  first | refine CW.seq (CW.region ?_) | refine CW.seq (CW.seq (CW.region ?_))
  refine LW.val rfl rfl (r_move) ?_
  refine LW.val rfl rfl (r_nil rfl) ?_
  refine LW.val rfl rfl (r_field rfl fa59_0) ?_
  refine LW.val rfl rfl (r_load (a := ⟨db, 0, none⟩) (v := .int .u64 ((s.ctr : Nat) : Int)) rfl one45 (hB1.cell (by decide))) ?_
  refine LW.val rfl rfl (r_addE rfl rfl (wN (m := s.ctr + 1) (by omega) (by omega))) ?_
  refine LW.val rfl rfl (r_nil rfl) ?_
  refine LW.val rfl rfl (r_field rfl fa59_0) ?_
  refine LW.eff rfl rfl (r_storeB (i := 0) rfl rfl one45 rfl hB1 (by decide)) ?_
  have hB2 := hB1.set (i := 0) (.int .u64 ((s.ctr + 1 : Nat) : Int)) (by decide)
  rw [dg_setCtr] at hB2
  refine LW.nil ?_
  refine CW.region ?_
  refine LW.val rfl rfl (r_move) ?_
  refine LW.val rfl rfl (r_nil rfl) ?_
  refine LW.val rfl rfl (r_field rfl fa59_6) ?_
  refine LW.eff rfl rfl (r_storeB (i := 43) rfl rfl one3 rfl hB2 (by decide)) ?_
  have hB3 := hB2.set (i := 43) (.int .i64 ((64 : Nat) : Int)) (by decide)
  rw [dg_setBn] at hB3
  exact LW.nil ⟨_, RetV.none rfl, rfl, (((Mod.drew [db] w).trans hM1 (by simp)).old (Mod.set _ db _ _) (by simp)).old (Mod.set _ db _ _) (by simp), hB3⟩
theorem arr72' : ArrAt Tryd.prog 72 64 1 := arr72
theorem zero72 : (Tryd.prog.info? 72).map (·.zero) = some (some (aggF 64 fun _ => .int .u8 0)) := by kernel_rfl
theorem zeroF72 : ZeroIs Tryd.prog 72 64 (fun _ => .int .u8 0) := ZeroIs.of zero72
theorem w2b_one (m : Nat → Int) (i : Nat) : (w2b m i).oneCell' = true := by
  unfold w2b byteW
  split <;> rfl
theorem slow_any (db pb po pl pc nb : Nat) (c : Nat → Value) (te : TypeId) (s : DS) (w : World) (hB : Blk w db 44 (dg s) 59) (hbn : s.bn = 64) (hP : Blk w pb nb c te) (hpo : po + pl ≤ nb) (hpl : pl ≤ 64) :
    Calls Tryd.prog 21 #[.pointer (some ⟨db, 0, none⟩), .slice (some ⟨pb, po, none⟩) pl pc] w fun e w' => e = .returned (.int .i64 ((pl : Nat) : Int)) ∧ Mod [pb] w w' ∧ Blk w' pb nb (put c po pl (w2b s.bf)) te := by
  refine calls_of_CW (l := [_, _]) (N := 24) Tryd.func21 rfl rfl rfl ?_
  first | refine CW.seq (CW.region ?_) | refine CW.seq (CW.seq (CW.region ?_))
  refine LW.val rfl rfl (r_assign) ?_
  refine LW.nil ?_
  first | refine CW.seq (CW.region ?_) | refine CW.seq (CW.seq (CW.region ?_))
  refine LW.val rfl rfl (r_move) ?_
  refine LW.val rfl rfl (r_nil rfl) ?_
  refine LW.val rfl rfl (r_field rfl fa59_6) ?_
  refine LW.val rfl rfl (r_load (a := ⟨db, 43, none⟩) (v := .int .i64 ((64 : Nat) : Int)) rfl one3 (by rw [hB.cell (by decide), dg_bn, hbn])) ?_
  refine LW.val rfl rfl (r_subE rfl rfl (z := 0) (by decide)) ?_
  refine LW.val rfl rfl (r_convE int3 int76 rfl (z := 0) (by decide)) ?_
  refine LW.val rfl rfl (r_remE rfl rfl (by decide) (z := 0) (by decide)) ?_
  refine LW.val rfl rfl (r_assign) ?_
  refine LW.nil ?_
  first | refine CW.seq (CW.region ?_) | refine CW.seq (CW.seq (CW.region ?_))
  refine LW.val rfl rfl (r_alloc zeroF72) ?_
  refine LW.nil ?_
  have hMA := Mod.alloc w (.cells (Array.ofFn (n := 64) fun i => (fun _ => Value.int .u8 0) i.val) 72)
  have hX0 := Blk.new w 64 (fun _ => Value.int .u8 0) 72
  obtain ⟨xb, hxb⟩ : ∃ xb, xb = w.heap.size := ⟨_, rfl⟩
  rw [← hxb] at hX0 ⊢
  have hDX : db ≠ xb := hB.ne (by omega)
  have hPX : pb ≠ xb := hP.ne (by omega)
  have hB1 := hMA.blk hB (by simp)
  have hP1 := hMA.blk hP (by simp)
  have hM1 := (Mod.refl [pb] w).none hMA
  obtain ⟨w1, hw1⟩ : ∃ w1, w1 = w.alloc (.cells (Array.ofFn (n := 64) fun i => (fun _ => Value.int .u8 0) i.val) 72) := ⟨_, rfl⟩
  rw [← hw1] at hX0 hB1 hP1 hM1 ⊢
  clear hw1 hMA
  refine CW.seq (CW.drawn (fun _ => True) [(0, true), (1, true), (2, true), (3, true), (4, false)] mixed (by kernel_rfl) (by kernel_rfl) ?_)
  have hS : (fun (_ : World) => True) w1.drew := trivial
  refine OW.val hS rfl rfl rfl (fun _ _ => r_move) ?_
  refine OW.val hS rfl rfl rfl (fun _ _ => r_nil rfl) ?_
  refine OW.val hS rfl rfl rfl (fun _ _ => r_field rfl fa59_5) ?_
  refine OW.val hS rfl rfl rfl (fun _ _ => r_arr_all rfl arr72) ?_
  refine OW.call rfl rfl rfl (e_call en23) ?_
  refine (w2b_any db 27 xb 0 64 64 64 _ 72 s.bf _ (hB1.drew.rd (by decide) (fun i hi => dg_bf s hi)) hDX (by decide) hX0.drew (by decide)).mono ?_
  rintro e w2 ⟨rfl, hM2, hX2⟩
  refine ⟨_, rfl, trivial, ?_⟩
  have hP2 := hM2.blk hP1.drew (by simpa using hPX)
  refine OW.nil ?_
  first | refine CW.seq (CW.region ?_) | refine CW.seq (CW.seq (CW.region ?_))
  refine LW.val rfl rfl (r_move) ?_
  refine LW.val rfl rfl (r_move) ?_
  refine LW.val rfl rfl (r_arr_l (n := 64) (es := 1) (l := 0) rfl rfl arr72 (by decide) (by decide)) ?_
  refine LW.val rfl rfl (r_copyL (g := pb) (o := po) (b := xb) (so := 0) (m := pl) (f := w2b s.bf) rfl rfl slc22 (Nat.min_eq_right (by show pl ≤ 64 - 0; omega)) hP2 hpo (fun i hi => by rw [hX2.cell (by omega), put_at _ _ (by omega)]) (fun i _ => w2b_one _ _)) ?_
  refine LW.val rfl rfl (r_assign) ?_
  refine LW.nil ?_
  first | refine CW.seq (CW.region ?_) | refine CW.seq (CW.seq (CW.region ?_))
  refine LW.val rfl rfl (r_move) ?_
  refine LW.val rfl rfl (r_assign) ?_
  exact LW.nil (CW.ret ⟨_, RetV.one (t := 4) rfl rfl, rfl, (hM1.drewR.fresh hM2 (by omega)).old (Mod.putC _ pb _ _ _) (by simp), hP2.putC hpo⟩)
/-- The output, byte by byte. -/
def rdF (s : DS) (i : Nat) : Value := w2b (compF s.ch s.bl ((s.ctr + i / 64 : Nat) : Int) s.blen s.fl) (i % 64)
theorem rd_step (c : Nat → Value) (po k m : Nat) (s : DS) (hm : m ≤ 64) : put (put c po (64 * k) (rdF s)) (po + 64 * k) m (w2b (compF s.ch s.bl ((s.ctr + k : Nat) : Int) s.blen s.fl)) = put c po (64 * k + m) (rdF s) :=
  put_app c po (64 * k) m _ _ fun i hi => by
    unfold rdF
    rw [show (64 * k + i) / 64 = k by omega, show (64 * k + i) % 64 = i by omega]
set_option maxHeartbeats 4000000 in
theorem read_any (db pb po n pc nb : Nat) (c : Nat → Value) (te : TypeId) (s : DS) (w : World) (hB : Blk w db 44 (dg s) 59) (hbn : s.bn = 0) (hP : Blk w pb nb c te) (hpo : po + n ≤ nb) (hnc : n ≤ pc) (hne : db ≠ pb) (hc : s.ctr < 2305843009213693952) (hn : n < 2147483648) :
    Calls Tryd.prog 17 #[.pointer (some ⟨db, 0, none⟩), .slice (some ⟨pb, po, none⟩) n pc] w fun e w' => e = .returned (.tuple #[.int .i64 ((n : Nat) : Int), .nilIface]) ∧ Mod [db, pb] w w' ∧ Blk w' pb nb (put c po n (rdF s)) te := by
  refine calls_of_CW (l := [_, _]) (N := 60) Tryd.func17 rfl rfl rfl ?_
  first | refine CW.seq (CW.region ?_) | refine CW.seq (CW.seq (CW.region ?_))
  refine LW.val rfl rfl (r_assign) ?_
  refine LW.val rfl rfl (r_assign) ?_
  refine LW.nil ?_
  first | refine CW.seq (CW.region ?_) | refine CW.seq (CW.seq (CW.region ?_))
  refine LW.val rfl rfl (r_move) ?_
  refine LW.val rfl rfl (r_lenL (n := n) rfl Tryd.underlying22) ?_
  refine LW.val rfl rfl (r_assign) ?_
  refine LW.nil ?_
  first | refine CW.seq (CW.region ?_) | refine CW.seq (CW.seq (CW.region ?_))
  refine LW.val rfl rfl (r_move) ?_
  refine LW.val rfl rfl (r_nil rfl) ?_
  refine LW.val rfl rfl (r_field rfl fa59_6) ?_
  refine LW.val rfl rfl (r_load (a := ⟨db, 43, none⟩) (v := .int .i64 ((0 : Nat) : Int)) rfl one3 (by rw [hB.cell (by decide), dg_bn, hbn])) ?_
  refine LW.val rfl rfl (r_gtrE rfl rfl (q := false) rfl) ?_
  refine LW.nil ?_
  first | refine CW.cond_f rfl (CW.skip ?_) | refine CW.seq (CW.cond_f rfl (CW.skip ?_))
  refine CW.seq (CW.block (CW.loop (fun q E w' => ∃ (k a : Nat) (J : Env) (bf : Nat → Int), k + q = n / 64 ∧ 64 * k ≤ n ∧ (64 * k < pc → a = po + 64 * k) ∧ E = tab (α := Value) J [(0, .pointer (some ⟨db, 0, none⟩)), (1, .slice (some ⟨pb, a, none⟩) (n - 64 * k) (pc - 64 * k)), (4, .int .i64 ((n : Nat) : Int))] ∧ Mod [db, pb] w w' ∧ Blk w' db 44 (dg { s with ctr := s.ctr + k, bf := bf, bn := 0 }) 59 ∧ Blk w' pb nb (put c po (64 * k) (rdF s)) te) (n / 64) ?_ ?_))
  · exact ⟨0, po, _, s.bf, by omega, by omega, fun _ => rfl, (tab_of_agrees (α := Value) _ [(0, .pointer (some ⟨db, 0, none⟩)), (1, .slice (some ⟨pb, po, none⟩) (n - 64 * 0) (pc - 64 * 0)), (4, .int .i64 ((n : Nat) : Int))] ⟨rfl, rfl, rfl, trivial⟩).symm, Mod.refl _ _, by rw [show ({ s with ctr := s.ctr + 0, bf := s.bf, bn := 0 } : DS) = s by cases s; simp at hbn; subst hbn; rfl]; exact hB, by rw [Nat.mul_zero, put_zero]; exact hP⟩
  · rintro q E w1 ⟨k, a, J, bf, hq, hk, ha, rfl, hM, hB1, hP1⟩
    by_cases hge : 64 ≤ n - 64 * k
    · have ha := ha (by omega)
      subst ha
      first | refine CW.seq (CW.region ?_) | refine CW.seq (CW.seq (CW.region ?_))
      refine LW.val rfl rfl (r_move) ?_
      refine LW.val rfl rfl (r_lenL (n := n - 64 * k) rfl Tryd.underlying22) ?_
      refine LW.val rfl rfl (r_geqE rfl rfl (q := true) (decide_eq_true (by omega))) ?_
      refine LW.nil ?_
      first | refine CW.cond_t rfl (CW.skip ?_) | refine CW.seq (CW.cond_t rfl (CW.skip ?_))
      refine CW.block ?_
      first | refine CW.seq (CW.region ?_) | refine CW.seq (CW.seq (CW.region ?_))
      refine LW.val rfl rfl (r_move) ?_
      refine LW.call rfl rfl (e_call en22) ?_
      refine (fill_any db { s with ctr := s.ctr + k, bf := bf, bn := 0 } w1 hB1 (by show s.ctr + k < _; omega)).mono ?_
      rintro e w2 ⟨rfl, hM2, hB2⟩
      refine ⟨_, rfl, ?_⟩
      have hP2 := hM2.blk hP1 (by simpa using Ne.symm hne)
      refine LW.nil ?_
      first | refine CW.seq (CW.region ?_) | refine CW.seq (CW.seq (CW.region ?_))
      refine LW.val rfl rfl (r_move) ?_
      refine LW.val rfl rfl (r_nil rfl) ?_
      refine LW.val rfl rfl (r_field rfl fa59_5) ?_
      refine LW.val rfl rfl (r_move) ?_
      refine LW.call rfl rfl (e_call en23) ?_
      refine (w2b_any db 27 pb (po + 64 * k) (n - 64 * k) (pc - 64 * k) nb _ te (compF s.ch s.bl ((s.ctr + k : Nat) : Int) s.blen s.fl) w2 (hB2.rd (by decide) (fun i hi => dg_bf _ hi)) hne (by omega) hP2 (by omega)).mono ?_
      rintro e w3 ⟨rfl, hM3, hP3⟩
      rw [rd_step c po k 64 s (by decide)] at hP3
      refine ⟨_, rfl, ?_⟩
      have hB3 := hM3.blk hB2 (by simpa using hne)
      refine LW.nil ?_
      have hM4 := (hM.old hM2 (by simp)).old hM3 (by simp)
      have key : ∃ a2 : Nat, (64 * (k + 1) < pc → a2 = po + 64 * (k + 1)) ∧ ∀ (ρ : Operand → Value) (x lo : Operand) dst ty pos af gd, ρ x = .slice (some ⟨pb, po + 64 * k, none⟩) (n - 64 * k) (pc - 64 * k) → ρ lo = .int .i64 64 → (execOp ρ ⟨dst, .slice 22 x (some lo) none none, ty, pos, af, gd⟩).run Tryd.prog w3 = .ok (.value (.slice (some ⟨pb, a2, none⟩) (n - 64 * (k + 1)) (pc - 64 * (k + 1)))) w3 := by
        by_cases hcp : 64 < pc - 64 * k
        · refine ⟨po + 64 * k + 64, fun _ => by omega, fun ρ x lo dst ty pos af gd hx hl => ?_⟩
          rw [r_slc_l hx hl slc22 (by decide) (by omega) (by omega), show n - 64 * (k + 1) = n - 64 * k - 64 by omega, show pc - 64 * (k + 1) = pc - 64 * k - 64 by omega]; rfl
        · refine ⟨po + 64 * k, fun h => by omega, fun ρ x lo dst ty pos af gd hx hl => ?_⟩
          rw [r_slc_end hx hl slc22 (by decide) (by omega) (by omega), show n - 64 * (k + 1) = n - 64 * k - 64 by omega, show pc - 64 * (k + 1) = pc - 64 * k - 64 by omega]; rfl
      obtain ⟨a2, ha2, key⟩ := key
      first | refine CW.seq (CW.region ?_) | refine CW.seq (CW.seq (CW.region ?_))
      refine LW.val rfl rfl (r_move) ?_
      refine LW.val rfl rfl (key _ _ _ _ _ _ _ _ rfl rfl) ?_
      refine LW.val rfl rfl (r_assign) ?_
      refine LW.nil ?_
      refine CW.region ?_
      refine LW.val rfl rfl (r_move) ?_
      refine LW.val rfl rfl (r_nil rfl) ?_
      refine LW.val rfl rfl (r_field rfl fa59_6) ?_
      refine LW.eff rfl rfl (r_storeB (i := 43) rfl rfl one3 rfl hB3 (by decide)) ?_
      have hB4 := hB3.set (i := 43) (.int .i64 ((0 : Nat) : Int)) (by decide)
      rw [dg_setBn] at hB4
      have hMS := Mod.set w3 db 43 (.int .i64 ((0 : Nat) : Int))
      exact LW.nil ⟨q - 1, by omega, k + 1, a2, _, _, by omega, by omega, ha2, (tab_of_agrees (α := Value) _ [(0, .pointer (some ⟨db, 0, none⟩)), (1, .slice (some ⟨pb, a2, none⟩) (n - 64 * (k + 1)) (pc - 64 * (k + 1))), (4, .int .i64 ((n : Nat) : Int))] ⟨rfl, rfl, rfl, trivial⟩).symm, hM4.old hMS (by simp), hB4, by rw [Nat.mul_add]; exact hMS.blk hP3 (by simpa using Ne.symm hne)⟩
    · first | refine CW.seq (CW.region ?_) | refine CW.seq (CW.seq (CW.region ?_))
      refine LW.val rfl rfl (r_move) ?_
      refine LW.val rfl rfl (r_lenL (n := n - 64 * k) rfl Tryd.underlying22) ?_
      refine LW.val rfl rfl (r_geqE rfl rfl (q := false) (decide_eq_false (by omega))) ?_
      refine LW.nil ?_
      first | refine CW.seq (CW.cond_f rfl (CW.exit (Or.inl ⟨rfl, ?_⟩))) | refine CW.cond_f rfl (CW.exit (Or.inl ⟨rfl, ?_⟩))
      by_cases h0 : n - 64 * k = 0
      · first | refine CW.seq (CW.region ?_) | refine CW.seq (CW.seq (CW.region ?_))
        refine LW.val rfl rfl (r_move) ?_
        refine LW.val rfl rfl (r_lenL (n := n - 64 * k) rfl Tryd.underlying22) ?_
        refine LW.val rfl rfl (r_eqlE rfl rfl (q := true) ((eq0 _).trans (decide_eq_true h0))) ?_
        refine LW.nil ?_
        first | refine CW.cond_t rfl ?_ | refine CW.seq (CW.cond_t rfl ?_)
        first | refine CW.seq (CW.region ?_) | refine CW.seq (CW.seq (CW.region ?_))
        refine LW.val rfl rfl (r_move) ?_
        refine LW.val rfl rfl (r_assign) ?_
        refine LW.val rfl rfl (r_assign) ?_
        have hnk : 64 * k = n := by omega
        rw [hnk] at hP1
        exact LW.nil (CW.ret ⟨_, RetV.two (t := 4) (u := 5) rfl rfl rfl, rfl, hM, hP1⟩)
      · first | refine CW.seq (CW.region ?_) | refine CW.seq (CW.seq (CW.region ?_))
        refine LW.val rfl rfl (r_move) ?_
        refine LW.val rfl rfl (r_lenL (n := n - 64 * k) rfl Tryd.underlying22) ?_
        refine LW.val rfl rfl (r_eqlE rfl rfl (q := false) ((eq0 _).trans (decide_eq_false h0))) ?_
        refine LW.nil ?_
        first | refine CW.cond_f rfl (CW.skip ?_) | refine CW.seq (CW.cond_f rfl (CW.skip ?_))
        have ha := ha (by omega)
        subst ha
        first | refine CW.seq (CW.region ?_) | refine CW.seq (CW.seq (CW.region ?_))
        refine LW.val rfl rfl (r_move) ?_
        refine LW.call rfl rfl (e_call en22) ?_
        refine (fill_any db { s with ctr := s.ctr + k, bf := bf, bn := 0 } w1 hB1 (by show s.ctr + k < _; omega)).mono ?_
        rintro e w2 ⟨rfl, hM2, hB2⟩
        refine ⟨_, rfl, ?_⟩
        have hP2 := hM2.blk hP1 (by simpa using Ne.symm hne)
        refine LW.nil ?_
        have hnk : 64 * k + (n - 64 * k) = n := by omega
        refine CW.seq (CW.drawn2 (fun _ => True) [0, 1, 2, 4, 5] 3 6 [(6, false), (7, true), (8, true), (9, true), (10, false)] [(3, false), (7, true), (8, true), (9, true), (10, false)] mixed (by kernel_rfl) (by kernel_rfl) ?_)
        refine OWP.val trivial rfl rfl rfl (fun _ _ => r_move) ?_
        refine OWP.val trivial rfl rfl rfl (fun _ _ => r_nil rfl) ?_
        refine OWP.val trivial rfl rfl rfl (fun _ _ => r_field rfl fa59_6) ?_
        refine OWP.val trivial rfl rfl rfl (fun _ _ => r_move) ?_
        refine OWP.val trivial rfl rfl rfl (fun _ _ => r_move) ?_
        refine OWP.nil ⟨?_, ?_⟩
        · refine OW.act rfl rfl rfl (r_load (a := ⟨db, 43, none⟩) (v := .int .i64 ((64 : Nat) : Int)) rfl one3 (hB2.drew.cell (by decide))) trivial ?_
          refine OW.call rfl rfl rfl (e_call en21) ?_
          refine (slow_any db pb (po + 64 * k) (n - 64 * k) (pc - 64 * k) nb _ te _ _ hB2.drew rfl hP2.drew (by omega) (by omega)).mono ?_
          rintro e w3 ⟨rfl, hM3, hP3⟩
          have hP4 := (congrArg (fun c => Blk w3 pb nb c te) (rd_step c po k (n - 64 * k) s (by omega))).mp hP3
          rw [hnk] at hP4
          have hB3 := hM3.blk hB2.drew (by simpa using hne)
          refine ⟨_, rfl, trivial, ?_⟩
          refine OW.val trivial rfl rfl rfl (fun _ _ => r_sub rfl rfl) ?_
          refine OW.val trivial rfl rfl rfl (fun _ _ => r_nil rfl) ?_
          refine OW.val trivial rfl rfl rfl (fun _ _ => r_field rfl fa59_6) ?_
          refine OW.eff rfl rfl rfl (r_storeB (i := 43) rfl rfl one3 rfl hB3 (by decide)) trivial ?_
          refine OW.nil ?_
          first | refine CW.seq (CW.region ?_) | refine CW.seq (CW.seq (CW.region ?_))
          refine LW.val rfl rfl (r_move) ?_
          refine LW.val rfl rfl (r_assign) ?_
          refine LW.val rfl rfl (r_assign) ?_
          exact LW.nil (CW.ret ⟨_, RetV.two (t := 4) (u := 5) rfl rfl rfl, rfl, ((hM.old hM2 (by simp)).drewR.old hM3 (by simp)).old (Mod.set _ db _ _) (by simp), (Mod.set _ db _ _).blk hP4 (by simpa using Ne.symm hne)⟩)
        · refine OW.call rfl rfl rfl (e_call en21) ?_
          refine (slow_any db pb (po + 64 * k) (n - 64 * k) (pc - 64 * k) nb _ te _ _ hB2.drew rfl hP2.drew (by omega) (by omega)).mono ?_
          rintro e w3 ⟨rfl, hM3, hP3⟩
          have hP4 := (congrArg (fun c => Blk w3 pb nb c te) (rd_step c po k (n - 64 * k) s (by omega))).mp hP3
          rw [hnk] at hP4
          have hB3 := hM3.blk hB2.drew (by simpa using hne)
          refine ⟨_, rfl, trivial, ?_⟩
          refine OW.act rfl rfl rfl (r_load (a := ⟨db, 43, none⟩) (v := .int .i64 ((64 : Nat) : Int)) rfl one3 (hB3.cell (by decide))) trivial ?_
          refine OW.val trivial rfl rfl rfl (fun _ _ => r_sub rfl rfl) ?_
          refine OW.val trivial rfl rfl rfl (fun _ _ => r_nil rfl) ?_
          refine OW.val trivial rfl rfl rfl (fun _ _ => r_field rfl fa59_6) ?_
          refine OW.eff rfl rfl rfl (r_storeB (i := 43) rfl rfl one3 rfl hB3 (by decide)) trivial ?_
          refine OW.nil ?_
          first | refine CW.seq (CW.region ?_) | refine CW.seq (CW.seq (CW.region ?_))
          refine LW.val rfl rfl (r_move) ?_
          refine LW.val rfl rfl (r_assign) ?_
          refine LW.val rfl rfl (r_assign) ?_
          exact LW.nil (CW.ret ⟨_, RetV.two (t := 4) (u := 5) rfl rfl rfl, rfl, ((hM.old hM2 (by simp)).drewR.old hM3 (by simp)).old (Mod.set _ db _ _) (by simp), (Mod.set _ db _ _).blk hP4 (by simpa using Ne.symm hne)⟩)
end Go.Proofs.YtfaopfaghnefdaaDoor
