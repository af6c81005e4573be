/- RotateLeft32, g and rcompress: what the compression's core leaves in its sixteen words. Conditions: the words are there. -/
import Derived.Test.YtfaopfaghnefdaaDoorTy
namespace Go.Proofs.YtfaopfaghnefdaaDoor
open Go
theorem en49 : Enters Tryd.prog 49 := ⟨_, Tryd.func49, by kernel_rfl, rfl⟩
theorem en48 : Enters Tryd.prog 48 := ⟨_, Tryd.func48, by kernel_rfl, rfl⟩
theorem wrap_u64_nonneg (n : Int) : ¬ IntKind.u64.wrap n < 0 := by
  have h : IntKind.u64.wrap n = n % (2 ^ 64 : Int) := by simp [IntKind.wrap, IntKind.signed, IntKind.bits]
  rw [h]; omega
theorem bw_u64_nonneg (op : BinOp) (x y : Int) : ¬ bw op .u64 x y < 0 := by
  unfold bw
  split <;> exact wrap_u64_nonneg _
/-- The count of a turn to the left. -/
def rotS (k : Int) : Int := bw .and .u64 (IntKind.u64.wrap k) 31
def rotl (x k : Int) : Int := bw .or .u32 (IntKind.u32.wrap (x * 2 ^ (min (rotS k).toNat 32))) (x.fdiv (2 ^ (min (IntKind.u64.wrap (32 - rotS k)).toNat 32)))
theorem rotl_any (x k : Int) (w : World) : Calls Tryd.prog 49 #[.int .u32 x, .int .i64 k] w fun e w' => e = .returned (.int .u32 (rotl x k)) ∧ w' = w := by
  refine calls_of_CW (l := [_, _]) (N := 17) Tryd.func49 rfl rfl rfl ?_
  refine CW.seq (CW.region ?_)
  refine LW.val rfl rfl (r_assign) ?_
  refine LW.nil (CW.seq (CW.region ?_))
  refine LW.val rfl rfl (r_move) ?_
  refine LW.val rfl rfl (r_conv int3 int76 rfl) ?_
  refine LW.val rfl rfl (r_and rfl rfl) ?_
  refine LW.val rfl rfl (r_assign) ?_
  refine LW.nil (CW.seq (CW.region ?_))
  refine LW.val rfl rfl (r_move) ?_
  refine LW.val rfl rfl (r_move) ?_
  refine LW.val rfl rfl (r_shl rfl rfl (bw_u64_nonneg _ _ _)) ?_
  refine LW.val rfl rfl (r_move) ?_
  refine LW.val rfl rfl (r_move) ?_
  refine LW.val rfl rfl (r_sub rfl rfl) ?_
  refine LW.val rfl rfl (r_shr rfl rfl (wrap_u64_nonneg _)) ?_
  refine LW.val rfl rfl (r_or rfl rfl) ?_
  refine LW.val rfl rfl (r_assign) ?_
  exact LW.nil (CW.ret ⟨_, RetV.one rfl rfl, rfl, rfl⟩)
/-- What g makes of six words. -/
def ga1 (a b mx : Int) : Int := IntKind.u32.wrap (a + IntKind.u32.wrap (b + mx))
def gd1 (a b d mx : Int) : Int := rotl (bw .xor .u32 d (ga1 a b mx)) (-16)
def gc1 (a b c d mx : Int) : Int := IntKind.u32.wrap (c + gd1 a b d mx)
def gb1 (a b c d mx : Int) : Int := rotl (bw .xor .u32 b (gc1 a b c d mx)) (-12)
def gA (a b c d mx my : Int) : Int := IntKind.u32.wrap (ga1 a b mx + IntKind.u32.wrap (gb1 a b c d mx + my))
def gD (a b c d mx my : Int) : Int := rotl (bw .xor .u32 (gd1 a b d mx) (gA a b c d mx my)) (-8)
def gC (a b c d mx my : Int) : Int := IntKind.u32.wrap (gc1 a b c d mx + gD a b c d mx my)
def gB (a b c d mx my : Int) : Int := rotl (bw .xor .u32 (gb1 a b c d mx) (gC a b c d mx my)) (-7)
set_option maxHeartbeats 1000000 in
theorem g_any (a b c d mx my : Int) (w : World) : Calls Tryd.prog 48 #[.int .u32 a, .int .u32 b, .int .u32 c, .int .u32 d, .int .u32 mx, .int .u32 my] w fun e w' =>
    e = .returned (.tuple #[.int .u32 (gA a b c d mx my), .int .u32 (gB a b c d mx my), .int .u32 (gC a b c d mx my), .int .u32 (gD a b c d mx my)]) ∧ w' = w := by
  refine calls_of_CW (l := [_, _, _, _, _, _]) (N := 52) Tryd.func48 rfl rfl rfl ?_
  refine CW.seq (CW.region ?_)
  refine LW.val rfl rfl (r_assign) ?_
  refine LW.val rfl rfl (r_assign) ?_
  refine LW.val rfl rfl (r_assign) ?_
  refine LW.val rfl rfl (r_assign) ?_
  refine LW.nil (CW.base [(0, .int .u32 (a)), (1, .int .u32 (b)), (2, .int .u32 (c)), (3, .int .u32 (d)), (4, .int .u32 mx), (5, .int .u32 my)] ⟨rfl, rfl, rfl, rfl, rfl, rfl, trivial⟩ fun J => CW.seq (CW.region ?_))
  refine LW.val rfl rfl (r_move) ?_
  refine LW.val rfl rfl (r_move) ?_
  refine LW.val rfl rfl (r_move) ?_
  refine LW.val rfl rfl (r_add rfl rfl) ?_
  refine LW.val rfl rfl (r_add rfl rfl) ?_
  refine LW.val rfl rfl (r_assign) ?_
  refine LW.nil (CW.base [(0, .int .u32 (ga1 a b mx)), (1, .int .u32 (b)), (2, .int .u32 (c)), (3, .int .u32 (d)), (4, .int .u32 mx), (5, .int .u32 my)] ⟨rfl, rfl, rfl, rfl, rfl, rfl, trivial⟩ fun J => CW.seq (CW.region ?_))
  refine LW.val rfl rfl (r_move) ?_
  refine LW.val rfl rfl (r_move) ?_
  refine LW.val rfl rfl (r_xor rfl rfl) ?_
  refine LW.call rfl rfl (e_call en49) ?_
  refine (rotl_any _ _ _).mono ?_
  rintro e w' ⟨rfl, rfl⟩
  refine ⟨_, rfl, ?_⟩
  refine LW.val rfl rfl (r_assign) ?_
  refine LW.nil (CW.base [(0, .int .u32 (ga1 a b mx)), (1, .int .u32 (b)), (2, .int .u32 (c)), (3, .int .u32 (gd1 a b d mx)), (4, .int .u32 mx), (5, .int .u32 my)] ⟨rfl, rfl, rfl, rfl, rfl, rfl, trivial⟩ fun J => CW.seq (CW.region ?_))
  refine LW.val rfl rfl (r_move) ?_
  refine LW.val rfl rfl (r_move) ?_
  refine LW.val rfl rfl (r_add rfl rfl) ?_
  refine LW.val rfl rfl (r_assign) ?_
  refine LW.nil (CW.base [(0, .int .u32 (ga1 a b mx)), (1, .int .u32 (b)), (2, .int .u32 (gc1 a b c d mx)), (3, .int .u32 (gd1 a b d mx)), (4, .int .u32 mx), (5, .int .u32 my)] ⟨rfl, rfl, rfl, rfl, rfl, rfl, trivial⟩ fun J => CW.seq (CW.region ?_))
  refine LW.val rfl rfl (r_move) ?_
  refine LW.val rfl rfl (r_move) ?_
  refine LW.val rfl rfl (r_xor rfl rfl) ?_
  refine LW.call rfl rfl (e_call en49) ?_
  refine (rotl_any _ _ _).mono ?_
  rintro e w' ⟨rfl, rfl⟩
  refine ⟨_, rfl, ?_⟩
  refine LW.val rfl rfl (r_assign) ?_
  refine LW.nil (CW.base [(0, .int .u32 (ga1 a b mx)), (1, .int .u32 (gb1 a b c d mx)), (2, .int .u32 (gc1 a b c d mx)), (3, .int .u32 (gd1 a b d mx)), (4, .int .u32 mx), (5, .int .u32 my)] ⟨rfl, rfl, rfl, rfl, rfl, rfl, trivial⟩ fun J => CW.seq (CW.region ?_))
  refine LW.val rfl rfl (r_move) ?_
  refine LW.val rfl rfl (r_move) ?_
  refine LW.val rfl rfl (r_move) ?_
  refine LW.val rfl rfl (r_add rfl rfl) ?_
  refine LW.val rfl rfl (r_add rfl rfl) ?_
  refine LW.val rfl rfl (r_assign) ?_
  refine LW.nil (CW.base [(0, .int .u32 (gA a b c d mx my)), (1, .int .u32 (gb1 a b c d mx)), (2, .int .u32 (gc1 a b c d mx)), (3, .int .u32 (gd1 a b d mx)), (4, .int .u32 mx), (5, .int .u32 my)] ⟨rfl, rfl, rfl, rfl, rfl, rfl, trivial⟩ fun J => CW.seq (CW.region ?_))
  refine LW.val rfl rfl (r_move) ?_
  refine LW.val rfl rfl (r_move) ?_
  refine LW.val rfl rfl (r_xor rfl rfl) ?_
  refine LW.call rfl rfl (e_call en49) ?_
  refine (rotl_any _ _ _).mono ?_
  rintro e w' ⟨rfl, rfl⟩
  refine ⟨_, rfl, ?_⟩
  refine LW.val rfl rfl (r_assign) ?_
  refine LW.nil (CW.base [(0, .int .u32 (gA a b c d mx my)), (1, .int .u32 (gb1 a b c d mx)), (2, .int .u32 (gc1 a b c d mx)), (3, .int .u32 (gD a b c d mx my)), (4, .int .u32 mx), (5, .int .u32 my)] ⟨rfl, rfl, rfl, rfl, rfl, rfl, trivial⟩ fun J => CW.seq (CW.region ?_))
  refine LW.val rfl rfl (r_move) ?_
  refine LW.val rfl rfl (r_move) ?_
  refine LW.val rfl rfl (r_add rfl rfl) ?_
  refine LW.val rfl rfl (r_assign) ?_
  refine LW.nil (CW.base [(0, .int .u32 (gA a b c d mx my)), (1, .int .u32 (gb1 a b c d mx)), (2, .int .u32 (gC a b c d mx my)), (3, .int .u32 (gD a b c d mx my)), (4, .int .u32 mx), (5, .int .u32 my)] ⟨rfl, rfl, rfl, rfl, rfl, rfl, trivial⟩ fun J => CW.seq (CW.region ?_))
  refine LW.val rfl rfl (r_move) ?_
  refine LW.val rfl rfl (r_move) ?_
  refine LW.val rfl rfl (r_xor rfl rfl) ?_
  refine LW.call rfl rfl (e_call en49) ?_
  refine (rotl_any _ _ _).mono ?_
  rintro e w' ⟨rfl, rfl⟩
  refine ⟨_, rfl, ?_⟩
  refine LW.val rfl rfl (r_assign) ?_
  refine LW.nil (CW.base [(0, .int .u32 (gA a b c d mx my)), (1, .int .u32 (gB a b c d mx my)), (2, .int .u32 (gC a b c d mx my)), (3, .int .u32 (gD a b c d mx my)), (4, .int .u32 mx), (5, .int .u32 my)] ⟨rfl, rfl, rfl, rfl, rfl, rfl, trivial⟩ fun J => CW.seq (CW.region ?_))
  refine LW.val rfl rfl (r_move) ?_
  refine LW.val rfl rfl (r_move) ?_
  refine LW.val rfl rfl (r_move) ?_
  refine LW.val rfl rfl (r_move) ?_
  refine LW.val rfl rfl (r_assign) ?_
  refine LW.val rfl rfl (r_assign) ?_
  refine LW.val rfl rfl (r_assign) ?_
  refine LW.val rfl rfl (r_assign) ?_
  exact LW.nil (CW.ret ⟨_, RetV.four rfl rfl rfl rfl rfl, rfl, rfl⟩)
/-- One g at four places of sixteen words. -/
def gs (v : Nat → Int) (a b c d : Nat) (mx my : Int) : Nat → Int := fun i =>
  bif Nat.beq i a then gA (v a) (v b) (v c) (v d) mx my else bif Nat.beq i b then gB (v a) (v b) (v c) (v d) mx my else bif Nat.beq i c then gC (v a) (v b) (v c) (v d) mx my else
  bif Nat.beq i d then gD (v a) (v b) (v c) (v d) mx my else v i
/-- Round 0. -/
def rnd0 (v m : Nat → Int) : Nat → Int :=
  let v1 := gs v 0 4 8 12 (m 0) (m 1)
  let v2 := gs v1 1 5 9 13 (m 2) (m 3)
  let v3 := gs v2 2 6 10 14 (m 4) (m 5)
  let v4 := gs v3 3 7 11 15 (m 6) (m 7)
  let v5 := gs v4 0 5 10 15 (m 8) (m 9)
  let v6 := gs v5 1 6 11 12 (m 10) (m 11)
  let v7 := gs v6 2 7 8 13 (m 12) (m 13)
  let v8 := gs v7 3 4 9 14 (m 14) (m 15)
  v8
/-- Round 1. -/
def rnd1 (v m : Nat → Int) : Nat → Int :=
  let v1 := gs v 0 4 8 12 (m 2) (m 6)
  let v2 := gs v1 1 5 9 13 (m 3) (m 10)
  let v3 := gs v2 2 6 10 14 (m 7) (m 0)
  let v4 := gs v3 3 7 11 15 (m 4) (m 13)
  let v5 := gs v4 0 5 10 15 (m 1) (m 11)
  let v6 := gs v5 1 6 11 12 (m 12) (m 5)
  let v7 := gs v6 2 7 8 13 (m 9) (m 14)
  let v8 := gs v7 3 4 9 14 (m 15) (m 8)
  v8
/-- Round 2. -/
def rnd2 (v m : Nat → Int) : Nat → Int :=
  let v1 := gs v 0 4 8 12 (m 3) (m 4)
  let v2 := gs v1 1 5 9 13 (m 10) (m 12)
  let v3 := gs v2 2 6 10 14 (m 13) (m 2)
  let v4 := gs v3 3 7 11 15 (m 7) (m 14)
  let v5 := gs v4 0 5 10 15 (m 6) (m 5)
  let v6 := gs v5 1 6 11 12 (m 9) (m 0)
  let v7 := gs v6 2 7 8 13 (m 11) (m 15)
  let v8 := gs v7 3 4 9 14 (m 8) (m 1)
  v8
/-- Round 3. -/
def rnd3 (v m : Nat → Int) : Nat → Int :=
  let v1 := gs v 0 4 8 12 (m 10) (m 7)
  let v2 := gs v1 1 5 9 13 (m 12) (m 9)
  let v3 := gs v2 2 6 10 14 (m 14) (m 3)
  let v4 := gs v3 3 7 11 15 (m 13) (m 15)
  let v5 := gs v4 0 5 10 15 (m 4) (m 0)
  let v6 := gs v5 1 6 11 12 (m 11) (m 2)
  let v7 := gs v6 2 7 8 13 (m 5) (m 8)
  let v8 := gs v7 3 4 9 14 (m 1) (m 6)
  v8
/-- Round 4. -/
def rnd4 (v m : Nat → Int) : Nat → Int :=
  let v1 := gs v 0 4 8 12 (m 12) (m 13)
  let v2 := gs v1 1 5 9 13 (m 9) (m 11)
  let v3 := gs v2 2 6 10 14 (m 15) (m 10)
  let v4 := gs v3 3 7 11 15 (m 14) (m 8)
  let v5 := gs v4 0 5 10 15 (m 7) (m 2)
  let v6 := gs v5 1 6 11 12 (m 5) (m 3)
  let v7 := gs v6 2 7 8 13 (m 0) (m 1)
  let v8 := gs v7 3 4 9 14 (m 6) (m 4)
  v8
/-- Round 5. -/
def rnd5 (v m : Nat → Int) : Nat → Int :=
  let v1 := gs v 0 4 8 12 (m 9) (m 14)
  let v2 := gs v1 1 5 9 13 (m 11) (m 5)
  let v3 := gs v2 2 6 10 14 (m 8) (m 12)
  let v4 := gs v3 3 7 11 15 (m 15) (m 1)
  let v5 := gs v4 0 5 10 15 (m 13) (m 3)
  let v6 := gs v5 1 6 11 12 (m 0) (m 10)
  let v7 := gs v6 2 7 8 13 (m 2) (m 6)
  let v8 := gs v7 3 4 9 14 (m 4) (m 7)
  v8
/-- Round 6. -/
def rnd6 (v m : Nat → Int) : Nat → Int :=
  let v1 := gs v 0 4 8 12 (m 11) (m 15)
  let v2 := gs v1 1 5 9 13 (m 5) (m 0)
  let v3 := gs v2 2 6 10 14 (m 1) (m 9)
  let v4 := gs v3 3 7 11 15 (m 8) (m 6)
  let v5 := gs v4 0 5 10 15 (m 14) (m 10)
  let v6 := gs v5 1 6 11 12 (m 2) (m 12)
  let v7 := gs v6 2 7 8 13 (m 3) (m 4)
  let v8 := gs v7 3 4 9 14 (m 7) (m 13)
  v8
/-- The seven rounds. -/
def rcV (s m : Nat → Int) : Nat → Int := rnd6 (rnd5 (rnd4 (rnd3 (rnd2 (rnd1 (rnd0 s m) m) m) m) m) m) m
/-- What rcompress leaves. -/
def rcF (s m : Nat → Int) : Nat → Int := fun i => if i < 8 then bw .xor .u32 (rcV s m i) (rcV s m (i + 8)) else bw .xor .u32 (rcV s m i) (s (i - 8))
def rcFr (sb so mb mo : Nat) (v : Nat → Int) : List (Nat × Value) := [(0, .pointer (some ⟨sb, so, none⟩)), (1, .pointer (some ⟨mb, mo, none⟩)), (4, .int .u32 (v 0)), (5, .int .u32 (v 1)), (6, .int .u32 (v 2)), (7, .int .u32 (v 3)), (8, .int .u32 (v 4)), (9, .int .u32 (v 5)), (10, .int .u32 (v 6)), (11, .int .u32 (v 7)), (12, .int .u32 (v 8)), (13, .int .u32 (v 9)), (14, .int .u32 (v 10)), (15, .int .u32 (v 11)), (16, .int .u32 (v 12)), (17, .int .u32 (v 13)), (18, .int .u32 (v 14)), (19, .int .u32 (v 15))]
/-- A chain of pieces from the n-th on. -/
def codeTl : Nat → Code → Code
  | 0, c => c
  | n + 1, .seq _ b => codeTl n b
  | _, c => c
noncomputable def rcBody : Code := Tryd.f47.body.getD .skip
theorem put_two (c : Nat → Value) (o m q : Nat) (f h F : Nat → Value) (h1 : ∀ i, i < m → f i = F i) (h2 : ∀ i, i < q → h i = F (m + i)) : put (put c (o + m) q h) o m f = put c o (m + q) F := by
  funext j
  by_cases hj : o ≤ j ∧ j < o + m
  · rw [put_in _ f hj, put_in c F (by omega), h1 _ (by omega)]
  · rw [put_out _ f hj]
    by_cases h' : o + m ≤ j ∧ j < o + m + q
    · rw [put_in _ h h', put_in c F (by omega), h2 _ (by omega)]
      congr 1; omega
    · rw [put_out _ h h', put_out c F (by omega)]
set_option maxHeartbeats 4000000 in
set_option maxRecDepth 10000 in
theorem rc_head (k : Cont) (sb so mb mo : Nat) (s : Nat → Int) (w : World) (hs : Rd w sb so 16 .u32 s) (h : ∀ J q, CW Tryd.prog 1212 (codeTl 4 rcBody) k (tab J (rcFr sb so mb mo s)) (w.drewN q)) :
    CW Tryd.prog 1212 (codeTl 0 rcBody) k (argE [.pointer (some ⟨sb, so, none⟩), .pointer (some ⟨mb, mo, none⟩)]) w := by
  refine CW.seq (CW.drawn (fun w => Rd w sb so 16 .u32 s) [(0, true), (1, true), (2, true), (3, true), (4, true), (5, true), (6, true), (7, true), (8, true), (9, true), (10, true), (11, true), (12, true), (13, true), (14, true), (15, true), (16, true), (17, true), (18, true), (19, true)] mixed (by kernel_rfl) (by kernel_rfl) ?_)
  have hS := hs.drew
  refine OW.val hS rfl rfl rfl (fun _ _ => r_move) ?_
  refine OW.val hS rfl rfl rfl (fun _ _ => r_nil rfl) ?_
  refine OW.val hS rfl rfl rfl (fun _ _ => r_index_arr rfl rfl arr57 (by decide) (by decide)) ?_
  refine OW.val hS rfl rfl rfl (fun _ hS => r_load rfl one43 (hS 0 (by decide))) ?_
  refine OW.val hS rfl rfl rfl (fun _ _ => r_move) ?_
  refine OW.val hS rfl rfl rfl (fun _ _ => r_nil rfl) ?_
  refine OW.val hS rfl rfl rfl (fun _ _ => r_index_arr rfl rfl arr57 (by decide) (by decide)) ?_
  refine OW.val hS rfl rfl rfl (fun _ hS => r_load rfl one43 (hS 1 (by decide))) ?_
  refine OW.val hS rfl rfl rfl (fun _ _ => r_move) ?_
  refine OW.val hS rfl rfl rfl (fun _ _ => r_nil rfl) ?_
  refine OW.val hS rfl rfl rfl (fun _ _ => r_index_arr rfl rfl arr57 (by decide) (by decide)) ?_
  refine OW.val hS rfl rfl rfl (fun _ hS => r_load rfl one43 (hS 2 (by decide))) ?_
  refine OW.val hS rfl rfl rfl (fun _ _ => r_move) ?_
  refine OW.val hS rfl rfl rfl (fun _ _ => r_nil rfl) ?_
  refine OW.val hS rfl rfl rfl (fun _ _ => r_index_arr rfl rfl arr57 (by decide) (by decide)) ?_
  refine OW.val hS rfl rfl rfl (fun _ hS => r_load rfl one43 (hS 3 (by decide))) ?_
  refine OW.val hS rfl rfl rfl (fun _ _ => r_assign) ?_
  refine OW.val hS rfl rfl rfl (fun _ _ => r_assign) ?_
  refine OW.val hS rfl rfl rfl (fun _ _ => r_assign) ?_
  refine OW.val hS rfl rfl rfl (fun _ _ => r_assign) ?_
  clear hS
  refine OW.nil (CW.fresh [(0, .pointer (some ⟨sb, so, none⟩)), (1, .pointer (some ⟨mb, mo, none⟩)), (4, .int .u32 (s 0)), (5, .int .u32 (s 1)), (6, .int .u32 (s 2)), (7, .int .u32 (s 3))] ⟨rfl, rfl, rfl, rfl, rfl, rfl, trivial⟩ (φ := fun w' => ∃ q, w' = w.drewN q) ⟨1, rfl⟩ ?_)
  rintro J _ ⟨q, rfl⟩
  refine CW.seq (CW.drawn (fun w => Rd w sb so 16 .u32 s) [(0, true), (1, true), (2, true), (3, true), (4, true), (5, true), (6, true), (7, true), (8, true), (9, true), (10, true), (11, true), (12, true), (13, true), (14, true), (15, true), (16, true), (17, true), (18, true), (19, true)] mixed (by kernel_rfl) (by kernel_rfl) ?_)
  have hS : Rd (w.drewN q).drew sb so 16 .u32 s := hs
  refine OW.val hS rfl rfl rfl (fun _ _ => r_move) ?_
  refine OW.val hS rfl rfl rfl (fun _ _ => r_nil rfl) ?_
  refine OW.val hS rfl rfl rfl (fun _ _ => r_index_arr rfl rfl arr57 (by decide) (by decide)) ?_
  refine OW.val hS rfl rfl rfl (fun _ hS => r_load rfl one43 (hS 4 (by decide))) ?_
  refine OW.val hS rfl rfl rfl (fun _ _ => r_move) ?_
  refine OW.val hS rfl rfl rfl (fun _ _ => r_nil rfl) ?_
  refine OW.val hS rfl rfl rfl (fun _ _ => r_index_arr rfl rfl arr57 (by decide) (by decide)) ?_
  refine OW.val hS rfl rfl rfl (fun _ hS => r_load rfl one43 (hS 5 (by decide))) ?_
  refine OW.val hS rfl rfl rfl (fun _ _ => r_move) ?_
  refine OW.val hS rfl rfl rfl (fun _ _ => r_nil rfl) ?_
  refine OW.val hS rfl rfl rfl (fun _ _ => r_index_arr rfl rfl arr57 (by decide) (by decide)) ?_
  refine OW.val hS rfl rfl rfl (fun _ hS => r_load rfl one43 (hS 6 (by decide))) ?_
  refine OW.val hS rfl rfl rfl (fun _ _ => r_move) ?_
  refine OW.val hS rfl rfl rfl (fun _ _ => r_nil rfl) ?_
  refine OW.val hS rfl rfl rfl (fun _ _ => r_index_arr rfl rfl arr57 (by decide) (by decide)) ?_
  refine OW.val hS rfl rfl rfl (fun _ hS => r_load rfl one43 (hS 7 (by decide))) ?_
  refine OW.val hS rfl rfl rfl (fun _ _ => r_assign) ?_
  refine OW.val hS rfl rfl rfl (fun _ _ => r_assign) ?_
  refine OW.val hS rfl rfl rfl (fun _ _ => r_assign) ?_
  refine OW.val hS rfl rfl rfl (fun _ _ => r_assign) ?_
  clear hS
  refine OW.nil (CW.fresh [(0, .pointer (some ⟨sb, so, none⟩)), (1, .pointer (some ⟨mb, mo, none⟩)), (4, .int .u32 (s 0)), (5, .int .u32 (s 1)), (6, .int .u32 (s 2)), (7, .int .u32 (s 3)), (8, .int .u32 (s 4)), (9, .int .u32 (s 5)), (10, .int .u32 (s 6)), (11, .int .u32 (s 7))] ⟨rfl, rfl, rfl, rfl, rfl, rfl, rfl, rfl, rfl, rfl, trivial⟩ (φ := fun w' => ∃ q, w' = w.drewN q) ⟨q + 1, rfl⟩ ?_)
  clear q J
  rintro J _ ⟨q, rfl⟩
  refine CW.seq (CW.drawn (fun w => Rd w sb so 16 .u32 s) [(0, true), (1, true), (2, true), (3, true), (4, true), (5, true), (6, true), (7, true), (8, true), (9, true), (10, true), (11, true), (12, true), (13, true), (14, true), (15, true), (16, true), (17, true), (18, true), (19, true)] mixed (by kernel_rfl) (by kernel_rfl) ?_)
  have hS : Rd (w.drewN q).drew sb so 16 .u32 s := hs
  refine OW.val hS rfl rfl rfl (fun _ _ => r_move) ?_
  refine OW.val hS rfl rfl rfl (fun _ _ => r_nil rfl) ?_
  refine OW.val hS rfl rfl rfl (fun _ _ => r_index_arr rfl rfl arr57 (by decide) (by decide)) ?_
  refine OW.val hS rfl rfl rfl (fun _ hS => r_load rfl one43 (hS 8 (by decide))) ?_
  refine OW.val hS rfl rfl rfl (fun _ _ => r_move) ?_
  refine OW.val hS rfl rfl rfl (fun _ _ => r_nil rfl) ?_
  refine OW.val hS rfl rfl rfl (fun _ _ => r_index_arr rfl rfl arr57 (by decide) (by decide)) ?_
  refine OW.val hS rfl rfl rfl (fun _ hS => r_load rfl one43 (hS 9 (by decide))) ?_
  refine OW.val hS rfl rfl rfl (fun _ _ => r_move) ?_
  refine OW.val hS rfl rfl rfl (fun _ _ => r_nil rfl) ?_
  refine OW.val hS rfl rfl rfl (fun _ _ => r_index_arr rfl rfl arr57 (by decide) (by decide)) ?_
  refine OW.val hS rfl rfl rfl (fun _ hS => r_load rfl one43 (hS 10 (by decide))) ?_
  refine OW.val hS rfl rfl rfl (fun _ _ => r_move) ?_
  refine OW.val hS rfl rfl rfl (fun _ _ => r_nil rfl) ?_
  refine OW.val hS rfl rfl rfl (fun _ _ => r_index_arr rfl rfl arr57 (by decide) (by decide)) ?_
  refine OW.val hS rfl rfl rfl (fun _ hS => r_load rfl one43 (hS 11 (by decide))) ?_
  refine OW.val hS rfl rfl rfl (fun _ _ => r_assign) ?_
  refine OW.val hS rfl rfl rfl (fun _ _ => r_assign) ?_
  refine OW.val hS rfl rfl rfl (fun _ _ => r_assign) ?_
  refine OW.val hS rfl rfl rfl (fun _ _ => r_assign) ?_
  clear hS
  refine OW.nil (CW.fresh [(0, .pointer (some ⟨sb, so, none⟩)), (1, .pointer (some ⟨mb, mo, none⟩)), (4, .int .u32 (s 0)), (5, .int .u32 (s 1)), (6, .int .u32 (s 2)), (7, .int .u32 (s 3)), (8, .int .u32 (s 4)), (9, .int .u32 (s 5)), (10, .int .u32 (s 6)), (11, .int .u32 (s 7)), (12, .int .u32 (s 8)), (13, .int .u32 (s 9)), (14, .int .u32 (s 10)), (15, .int .u32 (s 11))] ⟨rfl, rfl, rfl, rfl, rfl, rfl, rfl, rfl, rfl, rfl, rfl, rfl, rfl, rfl, trivial⟩ (φ := fun w' => ∃ q, w' = w.drewN q) ⟨q + 1, rfl⟩ ?_)
  clear q J
  rintro J _ ⟨q, rfl⟩
  refine CW.seq (CW.drawn (fun w => Rd w sb so 16 .u32 s) [(0, true), (1, true), (2, true), (3, true), (4, true), (5, true), (6, true), (7, true), (8, true), (9, true), (10, true), (11, true), (12, true), (13, true), (14, true), (15, true), (16, true), (17, true), (18, true), (19, true)] mixed (by kernel_rfl) (by kernel_rfl) ?_)
  have hS : Rd (w.drewN q).drew sb so 16 .u32 s := hs
  refine OW.val hS rfl rfl rfl (fun _ _ => r_move) ?_
  refine OW.val hS rfl rfl rfl (fun _ _ => r_nil rfl) ?_
  refine OW.val hS rfl rfl rfl (fun _ _ => r_index_arr rfl rfl arr57 (by decide) (by decide)) ?_
  refine OW.val hS rfl rfl rfl (fun _ hS => r_load rfl one43 (hS 12 (by decide))) ?_
  refine OW.val hS rfl rfl rfl (fun _ _ => r_move) ?_
  refine OW.val hS rfl rfl rfl (fun _ _ => r_nil rfl) ?_
  refine OW.val hS rfl rfl rfl (fun _ _ => r_index_arr rfl rfl arr57 (by decide) (by decide)) ?_
  refine OW.val hS rfl rfl rfl (fun _ hS => r_load rfl one43 (hS 13 (by decide))) ?_
  refine OW.val hS rfl rfl rfl (fun _ _ => r_move) ?_
  refine OW.val hS rfl rfl rfl (fun _ _ => r_nil rfl) ?_
  refine OW.val hS rfl rfl rfl (fun _ _ => r_index_arr rfl rfl arr57 (by decide) (by decide)) ?_
  refine OW.val hS rfl rfl rfl (fun _ hS => r_load rfl one43 (hS 14 (by decide))) ?_
  refine OW.val hS rfl rfl rfl (fun _ _ => r_move) ?_
  refine OW.val hS rfl rfl rfl (fun _ _ => r_nil rfl) ?_
  refine OW.val hS rfl rfl rfl (fun _ _ => r_index_arr rfl rfl arr57 (by decide) (by decide)) ?_
  refine OW.val hS rfl rfl rfl (fun _ hS => r_load rfl one43 (hS 15 (by decide))) ?_
  refine OW.val hS rfl rfl rfl (fun _ _ => r_assign) ?_
  refine OW.val hS rfl rfl rfl (fun _ _ => r_assign) ?_
  refine OW.val hS rfl rfl rfl (fun _ _ => r_assign) ?_
  refine OW.val hS rfl rfl rfl (fun _ _ => r_assign) ?_
  clear hS
  refine OW.nil (CW.fresh (rcFr sb so mb mo s) ⟨rfl, rfl, rfl, rfl, rfl, rfl, rfl, rfl, rfl, rfl, rfl, rfl, rfl, rfl, rfl, rfl, rfl, rfl, trivial⟩ (φ := fun w' => ∃ q, w' = w.drewN q) ⟨q + 1, rfl⟩ ?_)
  clear q J
  rintro J _ ⟨q, rfl⟩
  exact h J q
set_option maxHeartbeats 4000000 in
set_option maxRecDepth 10000 in
theorem rc_rnd0 (k : Cont) (J : Env) (sb so mb mo q : Nat) (v m : Nat → Int) (w : World) (hm : Rd w mb mo 16 .u32 m) (h : ∀ J q, CW Tryd.prog 1212 (codeTl 12 rcBody) k (tab J (rcFr sb so mb mo (rnd0 v m))) (w.drewN q)) :
    CW Tryd.prog 1212 (codeTl 4 rcBody) k (tab J (rcFr sb so mb mo v)) (w.drewN q) := by
  refine CW.seq (CW.drawn (fun w => Rd w mb mo 16 .u32 m) [(0, true), (1, true), (2, true), (3, true), (4, true), (5, true), (6, true), (7, true), (8, true), (9, true), (10, true), (11, true), (12, false), (13, true), (14, true), (15, true), (16, true), (17, true), (18, true), (19, true), (20, true), (21, true)] mixed (by kernel_rfl) (by kernel_rfl) ?_)
  have hS : Rd (w.drewN q).drew mb mo 16 .u32 m := hm
  refine OW.val hS rfl rfl rfl (fun _ _ => r_move) ?_
  refine OW.val hS rfl rfl rfl (fun _ _ => r_move) ?_
  refine OW.val hS rfl rfl rfl (fun _ _ => r_move) ?_
  refine OW.val hS rfl rfl rfl (fun _ _ => r_move) ?_
  refine OW.val hS rfl rfl rfl (fun _ _ => r_move) ?_
  refine OW.val hS rfl rfl rfl (fun _ _ => r_nil rfl) ?_
  refine OW.val hS rfl rfl rfl (fun _ _ => r_index_arr rfl rfl arr57 (by decide) (by decide)) ?_
  refine OW.val hS rfl rfl rfl (fun _ hS => r_load rfl one43 (hS 0 (by decide))) ?_
  refine OW.val hS rfl rfl rfl (fun _ _ => r_move) ?_
  refine OW.val hS rfl rfl rfl (fun _ _ => r_nil rfl) ?_
  refine OW.val hS rfl rfl rfl (fun _ _ => r_index_arr rfl rfl arr57 (by decide) (by decide)) ?_
  refine OW.val hS rfl rfl rfl (fun _ hS => r_load rfl one43 (hS 1 (by decide))) ?_
  refine OW.call rfl rfl rfl (e_call en48) ?_
  refine (g_any _ _ _ _ _ _ _).mono ?_
  rintro e w' ⟨rfl, rfl⟩
  refine ⟨_, rfl, hS, ?_⟩
  refine OW.val hS rfl rfl rfl (fun _ _ => r_move) ?_
  refine OW.val hS rfl rfl rfl (fun _ _ => r_extract rfl rfl) ?_
  refine OW.val hS rfl rfl rfl (fun _ _ => r_extract rfl rfl) ?_
  refine OW.val hS rfl rfl rfl (fun _ _ => r_extract rfl rfl) ?_
  refine OW.val hS rfl rfl rfl (fun _ _ => r_extract rfl rfl) ?_
  refine OW.val hS rfl rfl rfl (fun _ _ => r_assign) ?_
  refine OW.val hS rfl rfl rfl (fun _ _ => r_assign) ?_
  refine OW.val hS rfl rfl rfl (fun _ _ => r_assign) ?_
  refine OW.val hS rfl rfl rfl (fun _ _ => r_assign) ?_
  clear hS
  refine OW.nil (CW.fresh (rcFr sb so mb mo (gs v 0 4 8 12 (m 0) (m 1))) ⟨rfl, rfl, rfl, rfl, rfl, rfl, rfl, rfl, rfl, rfl, rfl, rfl, rfl, rfl, rfl, rfl, rfl, rfl, trivial⟩ (φ := fun w' => ∃ q, w' = w.drewN q) ⟨q + 1, rfl⟩ ?_)
  clear q J
  rintro J _ ⟨q, rfl⟩
  obtain ⟨v1, hv1⟩ : ∃ z, z = gs v 0 4 8 12 (m 0) (m 1) := ⟨_, rfl⟩
  rw [← hv1]
  refine CW.seq (CW.drawn (fun w => Rd w mb mo 16 .u32 m) [(0, true), (1, true), (2, true), (3, true), (4, true), (5, true), (6, true), (7, true), (8, true), (9, true), (10, true), (11, true), (12, false), (13, true), (14, true), (15, true), (16, true), (17, true), (18, true), (19, true), (20, true), (21, true)] mixed (by kernel_rfl) (by kernel_rfl) ?_)
  have hS : Rd (w.drewN q).drew mb mo 16 .u32 m := hm
  refine OW.val hS rfl rfl rfl (fun _ _ => r_move) ?_
  refine OW.val hS rfl rfl rfl (fun _ _ => r_move) ?_
  refine OW.val hS rfl rfl rfl (fun _ _ => r_move) ?_
  refine OW.val hS rfl rfl rfl (fun _ _ => r_move) ?_
  refine OW.val hS rfl rfl rfl (fun _ _ => r_move) ?_
  refine OW.val hS rfl rfl rfl (fun _ _ => r_nil rfl) ?_
  refine OW.val hS rfl rfl rfl (fun _ _ => r_index_arr rfl rfl arr57 (by decide) (by decide)) ?_
  refine OW.val hS rfl rfl rfl (fun _ hS => r_load rfl one43 (hS 2 (by decide))) ?_
  refine OW.val hS rfl rfl rfl (fun _ _ => r_move) ?_
  refine OW.val hS rfl rfl rfl (fun _ _ => r_nil rfl) ?_
  refine OW.val hS rfl rfl rfl (fun _ _ => r_index_arr rfl rfl arr57 (by decide) (by decide)) ?_
  refine OW.val hS rfl rfl rfl (fun _ hS => r_load rfl one43 (hS 3 (by decide))) ?_
  refine OW.call rfl rfl rfl (e_call en48) ?_
  refine (g_any _ _ _ _ _ _ _).mono ?_
  rintro e w' ⟨rfl, rfl⟩
  refine ⟨_, rfl, hS, ?_⟩
  refine OW.val hS rfl rfl rfl (fun _ _ => r_move) ?_
  refine OW.val hS rfl rfl rfl (fun _ _ => r_extract rfl rfl) ?_
  refine OW.val hS rfl rfl rfl (fun _ _ => r_extract rfl rfl) ?_
  refine OW.val hS rfl rfl rfl (fun _ _ => r_extract rfl rfl) ?_
  refine OW.val hS rfl rfl rfl (fun _ _ => r_extract rfl rfl) ?_
  refine OW.val hS rfl rfl rfl (fun _ _ => r_assign) ?_
  refine OW.val hS rfl rfl rfl (fun _ _ => r_assign) ?_
  refine OW.val hS rfl rfl rfl (fun _ _ => r_assign) ?_
  refine OW.val hS rfl rfl rfl (fun _ _ => r_assign) ?_
  clear hS
  refine OW.nil (CW.fresh (rcFr sb so mb mo (gs v1 1 5 9 13 (m 2) (m 3))) ⟨rfl, rfl, rfl, rfl, rfl, rfl, rfl, rfl, rfl, rfl, rfl, rfl, rfl, rfl, rfl, rfl, rfl, rfl, trivial⟩ (φ := fun w' => ∃ q, w' = w.drewN q) ⟨q + 1, rfl⟩ ?_)
  clear q J
  rintro J _ ⟨q, rfl⟩
  obtain ⟨v2, hv2⟩ : ∃ z, z = gs v1 1 5 9 13 (m 2) (m 3) := ⟨_, rfl⟩
  rw [← hv2]
  refine CW.seq (CW.drawn (fun w => Rd w mb mo 16 .u32 m) [(0, true), (1, true), (2, true), (3, true), (4, true), (5, true), (6, true), (7, true), (8, true), (9, true), (10, true), (11, true), (12, false), (13, true), (14, true), (15, true), (16, true), (17, true), (18, true), (19, true), (20, true), (21, true)] mixed (by kernel_rfl) (by kernel_rfl) ?_)
  have hS : Rd (w.drewN q).drew mb mo 16 .u32 m := hm
  refine OW.val hS rfl rfl rfl (fun _ _ => r_move) ?_
  refine OW.val hS rfl rfl rfl (fun _ _ => r_move) ?_
  refine OW.val hS rfl rfl rfl (fun _ _ => r_move) ?_
  refine OW.val hS rfl rfl rfl (fun _ _ => r_move) ?_
  refine OW.val hS rfl rfl rfl (fun _ _ => r_move) ?_
  refine OW.val hS rfl rfl rfl (fun _ _ => r_nil rfl) ?_
  refine OW.val hS rfl rfl rfl (fun _ _ => r_index_arr rfl rfl arr57 (by decide) (by decide)) ?_
  refine OW.val hS rfl rfl rfl (fun _ hS => r_load rfl one43 (hS 4 (by decide))) ?_
  refine OW.val hS rfl rfl rfl (fun _ _ => r_move) ?_
  refine OW.val hS rfl rfl rfl (fun _ _ => r_nil rfl) ?_
  refine OW.val hS rfl rfl rfl (fun _ _ => r_index_arr rfl rfl arr57 (by decide) (by decide)) ?_
  refine OW.val hS rfl rfl rfl (fun _ hS => r_load rfl one43 (hS 5 (by decide))) ?_
  refine OW.call rfl rfl rfl (e_call en48) ?_
  refine (g_any _ _ _ _ _ _ _).mono ?_
  rintro e w' ⟨rfl, rfl⟩
  refine ⟨_, rfl, hS, ?_⟩
  refine OW.val hS rfl rfl rfl (fun _ _ => r_move) ?_
  refine OW.val hS rfl rfl rfl (fun _ _ => r_extract rfl rfl) ?_
  refine OW.val hS rfl rfl rfl (fun _ _ => r_extract rfl rfl) ?_
  refine OW.val hS rfl rfl rfl (fun _ _ => r_extract rfl rfl) ?_
  refine OW.val hS rfl rfl rfl (fun _ _ => r_extract rfl rfl) ?_
  refine OW.val hS rfl rfl rfl (fun _ _ => r_assign) ?_
  refine OW.val hS rfl rfl rfl (fun _ _ => r_assign) ?_
  refine OW.val hS rfl rfl rfl (fun _ _ => r_assign) ?_
  refine OW.val hS rfl rfl rfl (fun _ _ => r_assign) ?_
  clear hS
  refine OW.nil (CW.fresh (rcFr sb so mb mo (gs v2 2 6 10 14 (m 4) (m 5))) ⟨rfl, rfl, rfl, rfl, rfl, rfl, rfl, rfl, rfl, rfl, rfl, rfl, rfl, rfl, rfl, rfl, rfl, rfl, trivial⟩ (φ := fun w' => ∃ q, w' = w.drewN q) ⟨q + 1, rfl⟩ ?_)
  clear q J
  rintro J _ ⟨q, rfl⟩
  obtain ⟨v3, hv3⟩ : ∃ z, z = gs v2 2 6 10 14 (m 4) (m 5) := ⟨_, rfl⟩
  rw [← hv3]
  refine CW.seq (CW.drawn (fun w => Rd w mb mo 16 .u32 m) [(0, true), (1, true), (2, true), (3, true), (4, true), (5, true), (6, true), (7, true), (8, true), (9, true), (10, true), (11, true), (12, false), (13, true), (14, true), (15, true), (16, true), (17, true), (18, true), (19, true), (20, true), (21, true)] mixed (by kernel_rfl) (by kernel_rfl) ?_)
  have hS : Rd (w.drewN q).drew mb mo 16 .u32 m := hm
  refine OW.val hS rfl rfl rfl (fun _ _ => r_move) ?_
  refine OW.val hS rfl rfl rfl (fun _ _ => r_move) ?_
  refine OW.val hS rfl rfl rfl (fun _ _ => r_move) ?_
  refine OW.val hS rfl rfl rfl (fun _ _ => r_move) ?_
  refine OW.val hS rfl rfl rfl (fun _ _ => r_move) ?_
  refine OW.val hS rfl rfl rfl (fun _ _ => r_nil rfl) ?_
  refine OW.val hS rfl rfl rfl (fun _ _ => r_index_arr rfl rfl arr57 (by decide) (by decide)) ?_
  refine OW.val hS rfl rfl rfl (fun _ hS => r_load rfl one43 (hS 6 (by decide))) ?_
  refine OW.val hS rfl rfl rfl (fun _ _ => r_move) ?_
  refine OW.val hS rfl rfl rfl (fun _ _ => r_nil rfl) ?_
  refine OW.val hS rfl rfl rfl (fun _ _ => r_index_arr rfl rfl arr57 (by decide) (by decide)) ?_
  refine OW.val hS rfl rfl rfl (fun _ hS => r_load rfl one43 (hS 7 (by decide))) ?_
  refine OW.call rfl rfl rfl (e_call en48) ?_
  refine (g_any _ _ _ _ _ _ _).mono ?_
  rintro e w' ⟨rfl, rfl⟩
  refine ⟨_, rfl, hS, ?_⟩
  refine OW.val hS rfl rfl rfl (fun _ _ => r_move) ?_
  refine OW.val hS rfl rfl rfl (fun _ _ => r_extract rfl rfl) ?_
  refine OW.val hS rfl rfl rfl (fun _ _ => r_extract rfl rfl) ?_
  refine OW.val hS rfl rfl rfl (fun _ _ => r_extract rfl rfl) ?_
  refine OW.val hS rfl rfl rfl (fun _ _ => r_extract rfl rfl) ?_
  refine OW.val hS rfl rfl rfl (fun _ _ => r_assign) ?_
  refine OW.val hS rfl rfl rfl (fun _ _ => r_assign) ?_
  refine OW.val hS rfl rfl rfl (fun _ _ => r_assign) ?_
  refine OW.val hS rfl rfl rfl (fun _ _ => r_assign) ?_
  clear hS
  refine OW.nil (CW.fresh (rcFr sb so mb mo (gs v3 3 7 11 15 (m 6) (m 7))) ⟨rfl, rfl, rfl, rfl, rfl, rfl, rfl, rfl, rfl, rfl, rfl, rfl, rfl, rfl, rfl, rfl, rfl, rfl, trivial⟩ (φ := fun w' => ∃ q, w' = w.drewN q) ⟨q + 1, rfl⟩ ?_)
  clear q J
  rintro J _ ⟨q, rfl⟩
  obtain ⟨v4, hv4⟩ : ∃ z, z = gs v3 3 7 11 15 (m 6) (m 7) := ⟨_, rfl⟩
  rw [← hv4]
  refine CW.seq (CW.drawn (fun w => Rd w mb mo 16 .u32 m) [(0, true), (1, true), (2, true), (3, true), (4, true), (5, true), (6, true), (7, true), (8, true), (9, true), (10, true), (11, true), (12, false), (13, true), (14, true), (15, true), (16, true), (17, true), (18, true), (19, true), (20, true), (21, true)] mixed (by kernel_rfl) (by kernel_rfl) ?_)
  have hS : Rd (w.drewN q).drew mb mo 16 .u32 m := hm
  refine OW.val hS rfl rfl rfl (fun _ _ => r_move) ?_
  refine OW.val hS rfl rfl rfl (fun _ _ => r_move) ?_
  refine OW.val hS rfl rfl rfl (fun _ _ => r_move) ?_
  refine OW.val hS rfl rfl rfl (fun _ _ => r_move) ?_
  refine OW.val hS rfl rfl rfl (fun _ _ => r_move) ?_
  refine OW.val hS rfl rfl rfl (fun _ _ => r_nil rfl) ?_
  refine OW.val hS rfl rfl rfl (fun _ _ => r_index_arr rfl rfl arr57 (by decide) (by decide)) ?_
  refine OW.val hS rfl rfl rfl (fun _ hS => r_load rfl one43 (hS 8 (by decide))) ?_
  refine OW.val hS rfl rfl rfl (fun _ _ => r_move) ?_
  refine OW.val hS rfl rfl rfl (fun _ _ => r_nil rfl) ?_
  refine OW.val hS rfl rfl rfl (fun _ _ => r_index_arr rfl rfl arr57 (by decide) (by decide)) ?_
  refine OW.val hS rfl rfl rfl (fun _ hS => r_load rfl one43 (hS 9 (by decide))) ?_
  refine OW.call rfl rfl rfl (e_call en48) ?_
  refine (g_any _ _ _ _ _ _ _).mono ?_
  rintro e w' ⟨rfl, rfl⟩
  refine ⟨_, rfl, hS, ?_⟩
  refine OW.val hS rfl rfl rfl (fun _ _ => r_move) ?_
  refine OW.val hS rfl rfl rfl (fun _ _ => r_extract rfl rfl) ?_
  refine OW.val hS rfl rfl rfl (fun _ _ => r_extract rfl rfl) ?_
  refine OW.val hS rfl rfl rfl (fun _ _ => r_extract rfl rfl) ?_
  refine OW.val hS rfl rfl rfl (fun _ _ => r_extract rfl rfl) ?_
  refine OW.val hS rfl rfl rfl (fun _ _ => r_assign) ?_
  refine OW.val hS rfl rfl rfl (fun _ _ => r_assign) ?_
  refine OW.val hS rfl rfl rfl (fun _ _ => r_assign) ?_
  refine OW.val hS rfl rfl rfl (fun _ _ => r_assign) ?_
  clear hS
  refine OW.nil (CW.fresh (rcFr sb so mb mo (gs v4 0 5 10 15 (m 8) (m 9))) ⟨rfl, rfl, rfl, rfl, rfl, rfl, rfl, rfl, rfl, rfl, rfl, rfl, rfl, rfl, rfl, rfl, rfl, rfl, trivial⟩ (φ := fun w' => ∃ q, w' = w.drewN q) ⟨q + 1, rfl⟩ ?_)
  clear q J
  rintro J _ ⟨q, rfl⟩
  obtain ⟨v5, hv5⟩ : ∃ z, z = gs v4 0 5 10 15 (m 8) (m 9) := ⟨_, rfl⟩
  rw [← hv5]
  refine CW.seq (CW.drawn (fun w => Rd w mb mo 16 .u32 m) [(0, true), (1, true), (2, true), (3, true), (4, true), (5, true), (6, true), (7, true), (8, true), (9, true), (10, true), (11, true), (12, false), (13, true), (14, true), (15, true), (16, true), (17, true), (18, true), (19, true), (20, true), (21, true)] mixed (by kernel_rfl) (by kernel_rfl) ?_)
  have hS : Rd (w.drewN q).drew mb mo 16 .u32 m := hm
  refine OW.val hS rfl rfl rfl (fun _ _ => r_move) ?_
  refine OW.val hS rfl rfl rfl (fun _ _ => r_move) ?_
  refine OW.val hS rfl rfl rfl (fun _ _ => r_move) ?_
  refine OW.val hS rfl rfl rfl (fun _ _ => r_move) ?_
  refine OW.val hS rfl rfl rfl (fun _ _ => r_move) ?_
  refine OW.val hS rfl rfl rfl (fun _ _ => r_nil rfl) ?_
  refine OW.val hS rfl rfl rfl (fun _ _ => r_index_arr rfl rfl arr57 (by decide) (by decide)) ?_
  refine OW.val hS rfl rfl rfl (fun _ hS => r_load rfl one43 (hS 10 (by decide))) ?_
  refine OW.val hS rfl rfl rfl (fun _ _ => r_move) ?_
  refine OW.val hS rfl rfl rfl (fun _ _ => r_nil rfl) ?_
  refine OW.val hS rfl rfl rfl (fun _ _ => r_index_arr rfl rfl arr57 (by decide) (by decide)) ?_
  refine OW.val hS rfl rfl rfl (fun _ hS => r_load rfl one43 (hS 11 (by decide))) ?_
  refine OW.call rfl rfl rfl (e_call en48) ?_
  refine (g_any _ _ _ _ _ _ _).mono ?_
  rintro e w' ⟨rfl, rfl⟩
  refine ⟨_, rfl, hS, ?_⟩
  refine OW.val hS rfl rfl rfl (fun _ _ => r_move) ?_
  refine OW.val hS rfl rfl rfl (fun _ _ => r_extract rfl rfl) ?_
  refine OW.val hS rfl rfl rfl (fun _ _ => r_extract rfl rfl) ?_
  refine OW.val hS rfl rfl rfl (fun _ _ => r_extract rfl rfl) ?_
  refine OW.val hS rfl rfl rfl (fun _ _ => r_extract rfl rfl) ?_
  refine OW.val hS rfl rfl rfl (fun _ _ => r_assign) ?_
  refine OW.val hS rfl rfl rfl (fun _ _ => r_assign) ?_
  refine OW.val hS rfl rfl rfl (fun _ _ => r_assign) ?_
  refine OW.val hS rfl rfl rfl (fun _ _ => r_assign) ?_
  clear hS
  refine OW.nil (CW.fresh (rcFr sb so mb mo (gs v5 1 6 11 12 (m 10) (m 11))) ⟨rfl, rfl, rfl, rfl, rfl, rfl, rfl, rfl, rfl, rfl, rfl, rfl, rfl, rfl, rfl, rfl, rfl, rfl, trivial⟩ (φ := fun w' => ∃ q, w' = w.drewN q) ⟨q + 1, rfl⟩ ?_)
  clear q J
  rintro J _ ⟨q, rfl⟩
  obtain ⟨v6, hv6⟩ : ∃ z, z = gs v5 1 6 11 12 (m 10) (m 11) := ⟨_, rfl⟩
  rw [← hv6]
  refine CW.seq (CW.drawn (fun w => Rd w mb mo 16 .u32 m) [(0, true), (1, true), (2, true), (3, true), (4, true), (5, true), (6, true), (7, true), (8, true), (9, true), (10, true), (11, true), (12, false), (13, true), (14, true), (15, true), (16, true), (17, true), (18, true), (19, true), (20, true), (21, true)] mixed (by kernel_rfl) (by kernel_rfl) ?_)
  have hS : Rd (w.drewN q).drew mb mo 16 .u32 m := hm
  refine OW.val hS rfl rfl rfl (fun _ _ => r_move) ?_
  refine OW.val hS rfl rfl rfl (fun _ _ => r_move) ?_
  refine OW.val hS rfl rfl rfl (fun _ _ => r_move) ?_
  refine OW.val hS rfl rfl rfl (fun _ _ => r_move) ?_
  refine OW.val hS rfl rfl rfl (fun _ _ => r_move) ?_
  refine OW.val hS rfl rfl rfl (fun _ _ => r_nil rfl) ?_
  refine OW.val hS rfl rfl rfl (fun _ _ => r_index_arr rfl rfl arr57 (by decide) (by decide)) ?_
  refine OW.val hS rfl rfl rfl (fun _ hS => r_load rfl one43 (hS 12 (by decide))) ?_
  refine OW.val hS rfl rfl rfl (fun _ _ => r_move) ?_
  refine OW.val hS rfl rfl rfl (fun _ _ => r_nil rfl) ?_
  refine OW.val hS rfl rfl rfl (fun _ _ => r_index_arr rfl rfl arr57 (by decide) (by decide)) ?_
  refine OW.val hS rfl rfl rfl (fun _ hS => r_load rfl one43 (hS 13 (by decide))) ?_
  refine OW.call rfl rfl rfl (e_call en48) ?_
  refine (g_any _ _ _ _ _ _ _).mono ?_
  rintro e w' ⟨rfl, rfl⟩
  refine ⟨_, rfl, hS, ?_⟩
  refine OW.val hS rfl rfl rfl (fun _ _ => r_move) ?_
  refine OW.val hS rfl rfl rfl (fun _ _ => r_extract rfl rfl) ?_
  refine OW.val hS rfl rfl rfl (fun _ _ => r_extract rfl rfl) ?_
  refine OW.val hS rfl rfl rfl (fun _ _ => r_extract rfl rfl) ?_
  refine OW.val hS rfl rfl rfl (fun _ _ => r_extract rfl rfl) ?_
  refine OW.val hS rfl rfl rfl (fun _ _ => r_assign) ?_
  refine OW.val hS rfl rfl rfl (fun _ _ => r_assign) ?_
  refine OW.val hS rfl rfl rfl (fun _ _ => r_assign) ?_
  refine OW.val hS rfl rfl rfl (fun _ _ => r_assign) ?_
  clear hS
  refine OW.nil (CW.fresh (rcFr sb so mb mo (gs v6 2 7 8 13 (m 12) (m 13))) ⟨rfl, rfl, rfl, rfl, rfl, rfl, rfl, rfl, rfl, rfl, rfl, rfl, rfl, rfl, rfl, rfl, rfl, rfl, trivial⟩ (φ := fun w' => ∃ q, w' = w.drewN q) ⟨q + 1, rfl⟩ ?_)
  clear q J
  rintro J _ ⟨q, rfl⟩
  obtain ⟨v7, hv7⟩ : ∃ z, z = gs v6 2 7 8 13 (m 12) (m 13) := ⟨_, rfl⟩
  rw [← hv7]
  refine CW.seq (CW.drawn (fun w => Rd w mb mo 16 .u32 m) [(0, true), (1, true), (2, true), (3, true), (4, true), (5, true), (6, true), (7, true), (8, true), (9, true), (10, true), (11, true), (12, false), (13, true), (14, true), (15, true), (16, true), (17, true), (18, true), (19, true), (20, true), (21, true)] mixed (by kernel_rfl) (by kernel_rfl) ?_)
  have hS : Rd (w.drewN q).drew mb mo 16 .u32 m := hm
  refine OW.val hS rfl rfl rfl (fun _ _ => r_move) ?_
  refine OW.val hS rfl rfl rfl (fun _ _ => r_move) ?_
  refine OW.val hS rfl rfl rfl (fun _ _ => r_move) ?_
  refine OW.val hS rfl rfl rfl (fun _ _ => r_move) ?_
  refine OW.val hS rfl rfl rfl (fun _ _ => r_move) ?_
  refine OW.val hS rfl rfl rfl (fun _ _ => r_nil rfl) ?_
  refine OW.val hS rfl rfl rfl (fun _ _ => r_index_arr rfl rfl arr57 (by decide) (by decide)) ?_
  refine OW.val hS rfl rfl rfl (fun _ hS => r_load rfl one43 (hS 14 (by decide))) ?_
  refine OW.val hS rfl rfl rfl (fun _ _ => r_move) ?_
  refine OW.val hS rfl rfl rfl (fun _ _ => r_nil rfl) ?_
  refine OW.val hS rfl rfl rfl (fun _ _ => r_index_arr rfl rfl arr57 (by decide) (by decide)) ?_
  refine OW.val hS rfl rfl rfl (fun _ hS => r_load rfl one43 (hS 15 (by decide))) ?_
  refine OW.call rfl rfl rfl (e_call en48) ?_
  refine (g_any _ _ _ _ _ _ _).mono ?_
  rintro e w' ⟨rfl, rfl⟩
  refine ⟨_, rfl, hS, ?_⟩
  refine OW.val hS rfl rfl rfl (fun _ _ => r_move) ?_
  refine OW.val hS rfl rfl rfl (fun _ _ => r_extract rfl rfl) ?_
  refine OW.val hS rfl rfl rfl (fun _ _ => r_extract rfl rfl) ?_
  refine OW.val hS rfl rfl rfl (fun _ _ => r_extract rfl rfl) ?_
  refine OW.val hS rfl rfl rfl (fun _ _ => r_extract rfl rfl) ?_
  refine OW.val hS rfl rfl rfl (fun _ _ => r_assign) ?_
  refine OW.val hS rfl rfl rfl (fun _ _ => r_assign) ?_
  refine OW.val hS rfl rfl rfl (fun _ _ => r_assign) ?_
  refine OW.val hS rfl rfl rfl (fun _ _ => r_assign) ?_
  clear hS
  refine OW.nil (CW.fresh (rcFr sb so mb mo (gs v7 3 4 9 14 (m 14) (m 15))) ⟨rfl, rfl, rfl, rfl, rfl, rfl, rfl, rfl, rfl, rfl, rfl, rfl, rfl, rfl, rfl, rfl, rfl, rfl, trivial⟩ (φ := fun w' => ∃ q, w' = w.drewN q) ⟨q + 1, rfl⟩ ?_)
  clear q J
  rintro J _ ⟨q, rfl⟩
  obtain ⟨v8, hv8⟩ : ∃ z, z = gs v7 3 4 9 14 (m 14) (m 15) := ⟨_, rfl⟩
  rw [← hv8]
  have hv : v8 = rnd0 v m := by
    subst hv8 hv7 hv6 hv5 hv4 hv3 hv2 hv1
    rfl
  rw [hv]
  exact h J q
set_option maxHeartbeats 4000000 in
set_option maxRecDepth 10000 in
theorem rc_rnd1 (k : Cont) (J : Env) (sb so mb mo q : Nat) (v m : Nat → Int) (w : World) (hm : Rd w mb mo 16 .u32 m) (h : ∀ J q, CW Tryd.prog 1212 (codeTl 20 rcBody) k (tab J (rcFr sb so mb mo (rnd1 v m))) (w.drewN q)) :
    CW Tryd.prog 1212 (codeTl 12 rcBody) k (tab J (rcFr sb so mb mo v)) (w.drewN q) := by
  refine CW.seq (CW.drawn (fun w => Rd w mb mo 16 .u32 m) [(0, true), (1, true), (2, true), (3, true), (4, true), (5, true), (6, true), (7, true), (8, true), (9, true), (10, true), (11, true), (12, false), (13, true), (14, true), (15, true), (16, true), (17, true), (18, true), (19, true), (20, true), (21, true)] mixed (by kernel_rfl) (by kernel_rfl) ?_)
  have hS : Rd (w.drewN q).drew mb mo 16 .u32 m := hm
  refine OW.val hS rfl rfl rfl (fun _ _ => r_move) ?_
  refine OW.val hS rfl rfl rfl (fun _ _ => r_move) ?_
  refine OW.val hS rfl rfl rfl (fun _ _ => r_move) ?_
  refine OW.val hS rfl rfl rfl (fun _ _ => r_move) ?_
  refine OW.val hS rfl rfl rfl (fun _ _ => r_move) ?_
  refine OW.val hS rfl rfl rfl (fun _ _ => r_nil rfl) ?_
  refine OW.val hS rfl rfl rfl (fun _ _ => r_index_arr rfl rfl arr57 (by decide) (by decide)) ?_
  refine OW.val hS rfl rfl rfl (fun _ hS => r_load rfl one43 (hS 2 (by decide))) ?_
  refine OW.val hS rfl rfl rfl (fun _ _ => r_move) ?_
  refine OW.val hS rfl rfl rfl (fun _ _ => r_nil rfl) ?_
  refine OW.val hS rfl rfl rfl (fun _ _ => r_index_arr rfl rfl arr57 (by decide) (by decide)) ?_
  refine OW.val hS rfl rfl rfl (fun _ hS => r_load rfl one43 (hS 6 (by decide))) ?_
  refine OW.call rfl rfl rfl (e_call en48) ?_
  refine (g_any _ _ _ _ _ _ _).mono ?_
  rintro e w' ⟨rfl, rfl⟩
  refine ⟨_, rfl, hS, ?_⟩
  refine OW.val hS rfl rfl rfl (fun _ _ => r_move) ?_
  refine OW.val hS rfl rfl rfl (fun _ _ => r_extract rfl rfl) ?_
  refine OW.val hS rfl rfl rfl (fun _ _ => r_extract rfl rfl) ?_
  refine OW.val hS rfl rfl rfl (fun _ _ => r_extract rfl rfl) ?_
  refine OW.val hS rfl rfl rfl (fun _ _ => r_extract rfl rfl) ?_
  refine OW.val hS rfl rfl rfl (fun _ _ => r_assign) ?_
  refine OW.val hS rfl rfl rfl (fun _ _ => r_assign) ?_
  refine OW.val hS rfl rfl rfl (fun _ _ => r_assign) ?_
  refine OW.val hS rfl rfl rfl (fun _ _ => r_assign) ?_
  clear hS
  refine OW.nil (CW.fresh (rcFr sb so mb mo (gs v 0 4 8 12 (m 2) (m 6))) ⟨rfl, rfl, rfl, rfl, rfl, rfl, rfl, rfl, rfl, rfl, rfl, rfl, rfl, rfl, rfl, rfl, rfl, rfl, trivial⟩ (φ := fun w' => ∃ q, w' = w.drewN q) ⟨q + 1, rfl⟩ ?_)
  clear q J
  rintro J _ ⟨q, rfl⟩
  obtain ⟨v1, hv1⟩ : ∃ z, z = gs v 0 4 8 12 (m 2) (m 6) := ⟨_, rfl⟩
  rw [← hv1]
  refine CW.seq (CW.drawn (fun w => Rd w mb mo 16 .u32 m) [(0, true), (1, true), (2, true), (3, true), (4, true), (5, true), (6, true), (7, true), (8, true), (9, true), (10, true), (11, true), (12, false), (13, true), (14, true), (15, true), (16, true), (17, true), (18, true), (19, true), (20, true), (21, true)] mixed (by kernel_rfl) (by kernel_rfl) ?_)
  have hS : Rd (w.drewN q).drew mb mo 16 .u32 m := hm
  refine OW.val hS rfl rfl rfl (fun _ _ => r_move) ?_
  refine OW.val hS rfl rfl rfl (fun _ _ => r_move) ?_
  refine OW.val hS rfl rfl rfl (fun _ _ => r_move) ?_
  refine OW.val hS rfl rfl rfl (fun _ _ => r_move) ?_
  refine OW.val hS rfl rfl rfl (fun _ _ => r_move) ?_
  refine OW.val hS rfl rfl rfl (fun _ _ => r_nil rfl) ?_
  refine OW.val hS rfl rfl rfl (fun _ _ => r_index_arr rfl rfl arr57 (by decide) (by decide)) ?_
  refine OW.val hS rfl rfl rfl (fun _ hS => r_load rfl one43 (hS 3 (by decide))) ?_
  refine OW.val hS rfl rfl rfl (fun _ _ => r_move) ?_
  refine OW.val hS rfl rfl rfl (fun _ _ => r_nil rfl) ?_
  refine OW.val hS rfl rfl rfl (fun _ _ => r_index_arr rfl rfl arr57 (by decide) (by decide)) ?_
  refine OW.val hS rfl rfl rfl (fun _ hS => r_load rfl one43 (hS 10 (by decide))) ?_
  refine OW.call rfl rfl rfl (e_call en48) ?_
  refine (g_any _ _ _ _ _ _ _).mono ?_
  rintro e w' ⟨rfl, rfl⟩
  refine ⟨_, rfl, hS, ?_⟩
  refine OW.val hS rfl rfl rfl (fun _ _ => r_move) ?_
  refine OW.val hS rfl rfl rfl (fun _ _ => r_extract rfl rfl) ?_
  refine OW.val hS rfl rfl rfl (fun _ _ => r_extract rfl rfl) ?_
  refine OW.val hS rfl rfl rfl (fun _ _ => r_extract rfl rfl) ?_
  refine OW.val hS rfl rfl rfl (fun _ _ => r_extract rfl rfl) ?_
  refine OW.val hS rfl rfl rfl (fun _ _ => r_assign) ?_
  refine OW.val hS rfl rfl rfl (fun _ _ => r_assign) ?_
  refine OW.val hS rfl rfl rfl (fun _ _ => r_assign) ?_
  refine OW.val hS rfl rfl rfl (fun _ _ => r_assign) ?_
  clear hS
  refine OW.nil (CW.fresh (rcFr sb so mb mo (gs v1 1 5 9 13 (m 3) (m 10))) ⟨rfl, rfl, rfl, rfl, rfl, rfl, rfl, rfl, rfl, rfl, rfl, rfl, rfl, rfl, rfl, rfl, rfl, rfl, trivial⟩ (φ := fun w' => ∃ q, w' = w.drewN q) ⟨q + 1, rfl⟩ ?_)
  clear q J
  rintro J _ ⟨q, rfl⟩
  obtain ⟨v2, hv2⟩ : ∃ z, z = gs v1 1 5 9 13 (m 3) (m 10) := ⟨_, rfl⟩
  rw [← hv2]
  refine CW.seq (CW.drawn (fun w => Rd w mb mo 16 .u32 m) [(0, true), (1, true), (2, true), (3, true), (4, true), (5, true), (6, true), (7, true), (8, true), (9, true), (10, true), (11, true), (12, false), (13, true), (14, true), (15, true), (16, true), (17, true), (18, true), (19, true), (20, true), (21, true)] mixed (by kernel_rfl) (by kernel_rfl) ?_)
  have hS : Rd (w.drewN q).drew mb mo 16 .u32 m := hm
  refine OW.val hS rfl rfl rfl (fun _ _ => r_move) ?_
  refine OW.val hS rfl rfl rfl (fun _ _ => r_move) ?_
  refine OW.val hS rfl rfl rfl (fun _ _ => r_move) ?_
  refine OW.val hS rfl rfl rfl (fun _ _ => r_move) ?_
  refine OW.val hS rfl rfl rfl (fun _ _ => r_move) ?_
  refine OW.val hS rfl rfl rfl (fun _ _ => r_nil rfl) ?_
  refine OW.val hS rfl rfl rfl (fun _ _ => r_index_arr rfl rfl arr57 (by decide) (by decide)) ?_
  refine OW.val hS rfl rfl rfl (fun _ hS => r_load rfl one43 (hS 7 (by decide))) ?_
  refine OW.val hS rfl rfl rfl (fun _ _ => r_move) ?_
  refine OW.val hS rfl rfl rfl (fun _ _ => r_nil rfl) ?_
  refine OW.val hS rfl rfl rfl (fun _ _ => r_index_arr rfl rfl arr57 (by decide) (by decide)) ?_
  refine OW.val hS rfl rfl rfl (fun _ hS => r_load rfl one43 (hS 0 (by decide))) ?_
  refine OW.call rfl rfl rfl (e_call en48) ?_
  refine (g_any _ _ _ _ _ _ _).mono ?_
  rintro e w' ⟨rfl, rfl⟩
  refine ⟨_, rfl, hS, ?_⟩
  refine OW.val hS rfl rfl rfl (fun _ _ => r_move) ?_
  refine OW.val hS rfl rfl rfl (fun _ _ => r_extract rfl rfl) ?_
  refine OW.val hS rfl rfl rfl (fun _ _ => r_extract rfl rfl) ?_
  refine OW.val hS rfl rfl rfl (fun _ _ => r_extract rfl rfl) ?_
  refine OW.val hS rfl rfl rfl (fun _ _ => r_extract rfl rfl) ?_
  refine OW.val hS rfl rfl rfl (fun _ _ => r_assign) ?_
  refine OW.val hS rfl rfl rfl (fun _ _ => r_assign) ?_
  refine OW.val hS rfl rfl rfl (fun _ _ => r_assign) ?_
  refine OW.val hS rfl rfl rfl (fun _ _ => r_assign) ?_
  clear hS
  refine OW.nil (CW.fresh (rcFr sb so mb mo (gs v2 2 6 10 14 (m 7) (m 0))) ⟨rfl, rfl, rfl, rfl, rfl, rfl, rfl, rfl, rfl, rfl, rfl, rfl, rfl, rfl, rfl, rfl, rfl, rfl, trivial⟩ (φ := fun w' => ∃ q, w' = w.drewN q) ⟨q + 1, rfl⟩ ?_)
  clear q J
  rintro J _ ⟨q, rfl⟩
  obtain ⟨v3, hv3⟩ : ∃ z, z = gs v2 2 6 10 14 (m 7) (m 0) := ⟨_, rfl⟩
  rw [← hv3]
  refine CW.seq (CW.drawn (fun w => Rd w mb mo 16 .u32 m) [(0, true), (1, true), (2, true), (3, true), (4, true), (5, true), (6, true), (7, true), (8, true), (9, true), (10, true), (11, true), (12, false), (13, true), (14, true), (15, true), (16, true), (17, true), (18, true), (19, true), (20, true), (21, true)] mixed (by kernel_rfl) (by kernel_rfl) ?_)
  have hS : Rd (w.drewN q).drew mb mo 16 .u32 m := hm
  refine OW.val hS rfl rfl rfl (fun _ _ => r_move) ?_
  refine OW.val hS rfl rfl rfl (fun _ _ => r_move) ?_
  refine OW.val hS rfl rfl rfl (fun _ _ => r_move) ?_
  refine OW.val hS rfl rfl rfl (fun _ _ => r_move) ?_
  refine OW.val hS rfl rfl rfl (fun _ _ => r_move) ?_
  refine OW.val hS rfl rfl rfl (fun _ _ => r_nil rfl) ?_
  refine OW.val hS rfl rfl rfl (fun _ _ => r_index_arr rfl rfl arr57 (by decide) (by decide)) ?_
  refine OW.val hS rfl rfl rfl (fun _ hS => r_load rfl one43 (hS 4 (by decide))) ?_
  refine OW.val hS rfl rfl rfl (fun _ _ => r_move) ?_
  refine OW.val hS rfl rfl rfl (fun _ _ => r_nil rfl) ?_
  refine OW.val hS rfl rfl rfl (fun _ _ => r_index_arr rfl rfl arr57 (by decide) (by decide)) ?_
  refine OW.val hS rfl rfl rfl (fun _ hS => r_load rfl one43 (hS 13 (by decide))) ?_
  refine OW.call rfl rfl rfl (e_call en48) ?_
  refine (g_any _ _ _ _ _ _ _).mono ?_
  rintro e w' ⟨rfl, rfl⟩
  refine ⟨_, rfl, hS, ?_⟩
  refine OW.val hS rfl rfl rfl (fun _ _ => r_move) ?_
  refine OW.val hS rfl rfl rfl (fun _ _ => r_extract rfl rfl) ?_
  refine OW.val hS rfl rfl rfl (fun _ _ => r_extract rfl rfl) ?_
  refine OW.val hS rfl rfl rfl (fun _ _ => r_extract rfl rfl) ?_
  refine OW.val hS rfl rfl rfl (fun _ _ => r_extract rfl rfl) ?_
  refine OW.val hS rfl rfl rfl (fun _ _ => r_assign) ?_
  refine OW.val hS rfl rfl rfl (fun _ _ => r_assign) ?_
  refine OW.val hS rfl rfl rfl (fun _ _ => r_assign) ?_
  refine OW.val hS rfl rfl rfl (fun _ _ => r_assign) ?_
  clear hS
  refine OW.nil (CW.fresh (rcFr sb so mb mo (gs v3 3 7 11 15 (m 4) (m 13))) ⟨rfl, rfl, rfl, rfl, rfl, rfl, rfl, rfl, rfl, rfl, rfl, rfl, rfl, rfl, rfl, rfl, rfl, rfl, trivial⟩ (φ := fun w' => ∃ q, w' = w.drewN q) ⟨q + 1, rfl⟩ ?_)
  clear q J
  rintro J _ ⟨q, rfl⟩
  obtain ⟨v4, hv4⟩ : ∃ z, z = gs v3 3 7 11 15 (m 4) (m 13) := ⟨_, rfl⟩
  rw [← hv4]
  refine CW.seq (CW.drawn (fun w => Rd w mb mo 16 .u32 m) [(0, true), (1, true), (2, true), (3, true), (4, true), (5, true), (6, true), (7, true), (8, true), (9, true), (10, true), (11, true), (12, false), (13, true), (14, true), (15, true), (16, true), (17, true), (18, true), (19, true), (20, true), (21, true)] mixed (by kernel_rfl) (by kernel_rfl) ?_)
  have hS : Rd (w.drewN q).drew mb mo 16 .u32 m := hm
  refine OW.val hS rfl rfl rfl (fun _ _ => r_move) ?_
  refine OW.val hS rfl rfl rfl (fun _ _ => r_move) ?_
  refine OW.val hS rfl rfl rfl (fun _ _ => r_move) ?_
  refine OW.val hS rfl rfl rfl (fun _ _ => r_move) ?_
  refine OW.val hS rfl rfl rfl (fun _ _ => r_move) ?_
  refine OW.val hS rfl rfl rfl (fun _ _ => r_nil rfl) ?_
  refine OW.val hS rfl rfl rfl (fun _ _ => r_index_arr rfl rfl arr57 (by decide) (by decide)) ?_
  refine OW.val hS rfl rfl rfl (fun _ hS => r_load rfl one43 (hS 1 (by decide))) ?_
  refine OW.val hS rfl rfl rfl (fun _ _ => r_move) ?_
  refine OW.val hS rfl rfl rfl (fun _ _ => r_nil rfl) ?_
  refine OW.val hS rfl rfl rfl (fun _ _ => r_index_arr rfl rfl arr57 (by decide) (by decide)) ?_
  refine OW.val hS rfl rfl rfl (fun _ hS => r_load rfl one43 (hS 11 (by decide))) ?_
  refine OW.call rfl rfl rfl (e_call en48) ?_
  refine (g_any _ _ _ _ _ _ _).mono ?_
  rintro e w' ⟨rfl, rfl⟩
  refine ⟨_, rfl, hS, ?_⟩
  refine OW.val hS rfl rfl rfl (fun _ _ => r_move) ?_
  refine OW.val hS rfl rfl rfl (fun _ _ => r_extract rfl rfl) ?_
  refine OW.val hS rfl rfl rfl (fun _ _ => r_extract rfl rfl) ?_
  refine OW.val hS rfl rfl rfl (fun _ _ => r_extract rfl rfl) ?_
  refine OW.val hS rfl rfl rfl (fun _ _ => r_extract rfl rfl) ?_
  refine OW.val hS rfl rfl rfl (fun _ _ => r_assign) ?_
  refine OW.val hS rfl rfl rfl (fun _ _ => r_assign) ?_
  refine OW.val hS rfl rfl rfl (fun _ _ => r_assign) ?_
  refine OW.val hS rfl rfl rfl (fun _ _ => r_assign) ?_
  clear hS
  refine OW.nil (CW.fresh (rcFr sb so mb mo (gs v4 0 5 10 15 (m 1) (m 11))) ⟨rfl, rfl, rfl, rfl, rfl, rfl, rfl, rfl, rfl, rfl, rfl, rfl, rfl, rfl, rfl, rfl, rfl, rfl, trivial⟩ (φ := fun w' => ∃ q, w' = w.drewN q) ⟨q + 1, rfl⟩ ?_)
  clear q J
  rintro J _ ⟨q, rfl⟩
  obtain ⟨v5, hv5⟩ : ∃ z, z = gs v4 0 5 10 15 (m 1) (m 11) := ⟨_, rfl⟩
  rw [← hv5]
  refine CW.seq (CW.drawn (fun w => Rd w mb mo 16 .u32 m) [(0, true), (1, true), (2, true), (3, true), (4, true), (5, true), (6, true), (7, true), (8, true), (9, true), (10, true), (11, true), (12, false), (13, true), (14, true), (15, true), (16, true), (17, true), (18, true), (19, true), (20, true), (21, true)] mixed (by kernel_rfl) (by kernel_rfl) ?_)
  have hS : Rd (w.drewN q).drew mb mo 16 .u32 m := hm
  refine OW.val hS rfl rfl rfl (fun _ _ => r_move) ?_
  refine OW.val hS rfl rfl rfl (fun _ _ => r_move) ?_
  refine OW.val hS rfl rfl rfl (fun _ _ => r_move) ?_
  refine OW.val hS rfl rfl rfl (fun _ _ => r_move) ?_
  refine OW.val hS rfl rfl rfl (fun _ _ => r_move) ?_
  refine OW.val hS rfl rfl rfl (fun _ _ => r_nil rfl) ?_
  refine OW.val hS rfl rfl rfl (fun _ _ => r_index_arr rfl rfl arr57 (by decide) (by decide)) ?_
  refine OW.val hS rfl rfl rfl (fun _ hS => r_load rfl one43 (hS 12 (by decide))) ?_
  refine OW.val hS rfl rfl rfl (fun _ _ => r_move) ?_
  refine OW.val hS rfl rfl rfl (fun _ _ => r_nil rfl) ?_
  refine OW.val hS rfl rfl rfl (fun _ _ => r_index_arr rfl rfl arr57 (by decide) (by decide)) ?_
  refine OW.val hS rfl rfl rfl (fun _ hS => r_load rfl one43 (hS 5 (by decide))) ?_
  refine OW.call rfl rfl rfl (e_call en48) ?_
  refine (g_any _ _ _ _ _ _ _).mono ?_
  rintro e w' ⟨rfl, rfl⟩
  refine ⟨_, rfl, hS, ?_⟩
  refine OW.val hS rfl rfl rfl (fun _ _ => r_move) ?_
  refine OW.val hS rfl rfl rfl (fun _ _ => r_extract rfl rfl) ?_
  refine OW.val hS rfl rfl rfl (fun _ _ => r_extract rfl rfl) ?_
  refine OW.val hS rfl rfl rfl (fun _ _ => r_extract rfl rfl) ?_
  refine OW.val hS rfl rfl rfl (fun _ _ => r_extract rfl rfl) ?_
  refine OW.val hS rfl rfl rfl (fun _ _ => r_assign) ?_
  refine OW.val hS rfl rfl rfl (fun _ _ => r_assign) ?_
  refine OW.val hS rfl rfl rfl (fun _ _ => r_assign) ?_
  refine OW.val hS rfl rfl rfl (fun _ _ => r_assign) ?_
  clear hS
  refine OW.nil (CW.fresh (rcFr sb so mb mo (gs v5 1 6 11 12 (m 12) (m 5))) ⟨rfl, rfl, rfl, rfl, rfl, rfl, rfl, rfl, rfl, rfl, rfl, rfl, rfl, rfl, rfl, rfl, rfl, rfl, trivial⟩ (φ := fun w' => ∃ q, w' = w.drewN q) ⟨q + 1, rfl⟩ ?_)
  clear q J
  rintro J _ ⟨q, rfl⟩
  obtain ⟨v6, hv6⟩ : ∃ z, z = gs v5 1 6 11 12 (m 12) (m 5) := ⟨_, rfl⟩
  rw [← hv6]
  refine CW.seq (CW.drawn (fun w => Rd w mb mo 16 .u32 m) [(0, true), (1, true), (2, true), (3, true), (4, true), (5, true), (6, true), (7, true), (8, true), (9, true), (10, true), (11, true), (12, false), (13, true), (14, true), (15, true), (16, true), (17, true), (18, true), (19, true), (20, true), (21, true)] mixed (by kernel_rfl) (by kernel_rfl) ?_)
  have hS : Rd (w.drewN q).drew mb mo 16 .u32 m := hm
  refine OW.val hS rfl rfl rfl (fun _ _ => r_move) ?_
  refine OW.val hS rfl rfl rfl (fun _ _ => r_move) ?_
  refine OW.val hS rfl rfl rfl (fun _ _ => r_move) ?_
  refine OW.val hS rfl rfl rfl (fun _ _ => r_move) ?_
  refine OW.val hS rfl rfl rfl (fun _ _ => r_move) ?_
  refine OW.val hS rfl rfl rfl (fun _ _ => r_nil rfl) ?_
  refine OW.val hS rfl rfl rfl (fun _ _ => r_index_arr rfl rfl arr57 (by decide) (by decide)) ?_
  refine OW.val hS rfl rfl rfl (fun _ hS => r_load rfl one43 (hS 9 (by decide))) ?_
  refine OW.val hS rfl rfl rfl (fun _ _ => r_move) ?_
  refine OW.val hS rfl rfl rfl (fun _ _ => r_nil rfl) ?_
  refine OW.val hS rfl rfl rfl (fun _ _ => r_index_arr rfl rfl arr57 (by decide) (by decide)) ?_
  refine OW.val hS rfl rfl rfl (fun _ hS => r_load rfl one43 (hS 14 (by decide))) ?_
  refine OW.call rfl rfl rfl (e_call en48) ?_
  refine (g_any _ _ _ _ _ _ _).mono ?_
  rintro e w' ⟨rfl, rfl⟩
  refine ⟨_, rfl, hS, ?_⟩
  refine OW.val hS rfl rfl rfl (fun _ _ => r_move) ?_
  refine OW.val hS rfl rfl rfl (fun _ _ => r_extract rfl rfl) ?_
  refine OW.val hS rfl rfl rfl (fun _ _ => r_extract rfl rfl) ?_
  refine OW.val hS rfl rfl rfl (fun _ _ => r_extract rfl rfl) ?_
  refine OW.val hS rfl rfl rfl (fun _ _ => r_extract rfl rfl) ?_
  refine OW.val hS rfl rfl rfl (fun _ _ => r_assign) ?_
  refine OW.val hS rfl rfl rfl (fun _ _ => r_assign) ?_
  refine OW.val hS rfl rfl rfl (fun _ _ => r_assign) ?_
  refine OW.val hS rfl rfl rfl (fun _ _ => r_assign) ?_
  clear hS
  refine OW.nil (CW.fresh (rcFr sb so mb mo (gs v6 2 7 8 13 (m 9) (m 14))) ⟨rfl, rfl, rfl, rfl, rfl, rfl, rfl, rfl, rfl, rfl, rfl, rfl, rfl, rfl, rfl, rfl, rfl, rfl, trivial⟩ (φ := fun w' => ∃ q, w' = w.drewN q) ⟨q + 1, rfl⟩ ?_)
  clear q J
  rintro J _ ⟨q, rfl⟩
  obtain ⟨v7, hv7⟩ : ∃ z, z = gs v6 2 7 8 13 (m 9) (m 14) := ⟨_, rfl⟩
  rw [← hv7]
  refine CW.seq (CW.drawn (fun w => Rd w mb mo 16 .u32 m) [(0, true), (1, true), (2, true), (3, true), (4, true), (5, true), (6, true), (7, true), (8, true), (9, true), (10, true), (11, true), (12, false), (13, true), (14, true), (15, true), (16, true), (17, true), (18, true), (19, true), (20, true), (21, true)] mixed (by kernel_rfl) (by kernel_rfl) ?_)
  have hS : Rd (w.drewN q).drew mb mo 16 .u32 m := hm
  refine OW.val hS rfl rfl rfl (fun _ _ => r_move) ?_
  refine OW.val hS rfl rfl rfl (fun _ _ => r_move) ?_
  refine OW.val hS rfl rfl rfl (fun _ _ => r_move) ?_
  refine OW.val hS rfl rfl rfl (fun _ _ => r_move) ?_
  refine OW.val hS rfl rfl rfl (fun _ _ => r_move) ?_
  refine OW.val hS rfl rfl rfl (fun _ _ => r_nil rfl) ?_
  refine OW.val hS rfl rfl rfl (fun _ _ => r_index_arr rfl rfl arr57 (by decide) (by decide)) ?_
  refine OW.val hS rfl rfl rfl (fun _ hS => r_load rfl one43 (hS 15 (by decide))) ?_
  refine OW.val hS rfl rfl rfl (fun _ _ => r_move) ?_
  refine OW.val hS rfl rfl rfl (fun _ _ => r_nil rfl) ?_
  refine OW.val hS rfl rfl rfl (fun _ _ => r_index_arr rfl rfl arr57 (by decide) (by decide)) ?_
  refine OW.val hS rfl rfl rfl (fun _ hS => r_load rfl one43 (hS 8 (by decide))) ?_
  refine OW.call rfl rfl rfl (e_call en48) ?_
  refine (g_any _ _ _ _ _ _ _).mono ?_
  rintro e w' ⟨rfl, rfl⟩
  refine ⟨_, rfl, hS, ?_⟩
  refine OW.val hS rfl rfl rfl (fun _ _ => r_move) ?_
  refine OW.val hS rfl rfl rfl (fun _ _ => r_extract rfl rfl) ?_
  refine OW.val hS rfl rfl rfl (fun _ _ => r_extract rfl rfl) ?_
  refine OW.val hS rfl rfl rfl (fun _ _ => r_extract rfl rfl) ?_
  refine OW.val hS rfl rfl rfl (fun _ _ => r_extract rfl rfl) ?_
  refine OW.val hS rfl rfl rfl (fun _ _ => r_assign) ?_
  refine OW.val hS rfl rfl rfl (fun _ _ => r_assign) ?_
  refine OW.val hS rfl rfl rfl (fun _ _ => r_assign) ?_
  refine OW.val hS rfl rfl rfl (fun _ _ => r_assign) ?_
  clear hS
  refine OW.nil (CW.fresh (rcFr sb so mb mo (gs v7 3 4 9 14 (m 15) (m 8))) ⟨rfl, rfl, rfl, rfl, rfl, rfl, rfl, rfl, rfl, rfl, rfl, rfl, rfl, rfl, rfl, rfl, rfl, rfl, trivial⟩ (φ := fun w' => ∃ q, w' = w.drewN q) ⟨q + 1, rfl⟩ ?_)
  clear q J
  rintro J _ ⟨q, rfl⟩
  obtain ⟨v8, hv8⟩ : ∃ z, z = gs v7 3 4 9 14 (m 15) (m 8) := ⟨_, rfl⟩
  rw [← hv8]
  have hv : v8 = rnd1 v m := by
    subst hv8 hv7 hv6 hv5 hv4 hv3 hv2 hv1
    rfl
  rw [hv]
  exact h J q
set_option maxHeartbeats 4000000 in
set_option maxRecDepth 10000 in
theorem rc_rnd2 (k : Cont) (J : Env) (sb so mb mo q : Nat) (v m : Nat → Int) (w : World) (hm : Rd w mb mo 16 .u32 m) (h : ∀ J q, CW Tryd.prog 1212 (codeTl 28 rcBody) k (tab J (rcFr sb so mb mo (rnd2 v m))) (w.drewN q)) :
    CW Tryd.prog 1212 (codeTl 20 rcBody) k (tab J (rcFr sb so mb mo v)) (w.drewN q) := by
  refine CW.seq (CW.drawn (fun w => Rd w mb mo 16 .u32 m) [(0, true), (1, true), (2, true), (3, true), (4, true), (5, true), (6, true), (7, true), (8, true), (9, true), (10, true), (11, true), (12, false), (13, true), (14, true), (15, true), (16, true), (17, true), (18, true), (19, true), (20, true), (21, true)] mixed (by kernel_rfl) (by kernel_rfl) ?_)
  have hS : Rd (w.drewN q).drew mb mo 16 .u32 m := hm
  refine OW.val hS rfl rfl rfl (fun _ _ => r_move) ?_
  refine OW.val hS rfl rfl rfl (fun _ _ => r_move) ?_
  refine OW.val hS rfl rfl rfl (fun _ _ => r_move) ?_
  refine OW.val hS rfl rfl rfl (fun _ _ => r_move) ?_
  refine OW.val hS rfl rfl rfl (fun _ _ => r_move) ?_
  refine OW.val hS rfl rfl rfl (fun _ _ => r_nil rfl) ?_
  refine OW.val hS rfl rfl rfl (fun _ _ => r_index_arr rfl rfl arr57 (by decide) (by decide)) ?_
  refine OW.val hS rfl rfl rfl (fun _ hS => r_load rfl one43 (hS 3 (by decide))) ?_
  refine OW.val hS rfl rfl rfl (fun _ _ => r_move) ?_
  refine OW.val hS rfl rfl rfl (fun _ _ => r_nil rfl) ?_
  refine OW.val hS rfl rfl rfl (fun _ _ => r_index_arr rfl rfl arr57 (by decide) (by decide)) ?_
  refine OW.val hS rfl rfl rfl (fun _ hS => r_load rfl one43 (hS 4 (by decide))) ?_
  refine OW.call rfl rfl rfl (e_call en48) ?_
  refine (g_any _ _ _ _ _ _ _).mono ?_
  rintro e w' ⟨rfl, rfl⟩
  refine ⟨_, rfl, hS, ?_⟩
  refine OW.val hS rfl rfl rfl (fun _ _ => r_move) ?_
  refine OW.val hS rfl rfl rfl (fun _ _ => r_extract rfl rfl) ?_
  refine OW.val hS rfl rfl rfl (fun _ _ => r_extract rfl rfl) ?_
  refine OW.val hS rfl rfl rfl (fun _ _ => r_extract rfl rfl) ?_
  refine OW.val hS rfl rfl rfl (fun _ _ => r_extract rfl rfl) ?_
  refine OW.val hS rfl rfl rfl (fun _ _ => r_assign) ?_
  refine OW.val hS rfl rfl rfl (fun _ _ => r_assign) ?_
  refine OW.val hS rfl rfl rfl (fun _ _ => r_assign) ?_
  refine OW.val hS rfl rfl rfl (fun _ _ => r_assign) ?_
  clear hS
  refine OW.nil (CW.fresh (rcFr sb so mb mo (gs v 0 4 8 12 (m 3) (m 4))) ⟨rfl, rfl, rfl, rfl, rfl, rfl, rfl, rfl, rfl, rfl, rfl, rfl, rfl, rfl, rfl, rfl, rfl, rfl, trivial⟩ (φ := fun w' => ∃ q, w' = w.drewN q) ⟨q + 1, rfl⟩ ?_)
  clear q J
  rintro J _ ⟨q, rfl⟩
  obtain ⟨v1, hv1⟩ : ∃ z, z = gs v 0 4 8 12 (m 3) (m 4) := ⟨_, rfl⟩
  rw [← hv1]
  refine CW.seq (CW.drawn (fun w => Rd w mb mo 16 .u32 m) [(0, true), (1, true), (2, true), (3, true), (4, true), (5, true), (6, true), (7, true), (8, true), (9, true), (10, true), (11, true), (12, false), (13, true), (14, true), (15, true), (16, true), (17, true), (18, true), (19, true), (20, true), (21, true)] mixed (by kernel_rfl) (by kernel_rfl) ?_)
  have hS : Rd (w.drewN q).drew mb mo 16 .u32 m := hm
  refine OW.val hS rfl rfl rfl (fun _ _ => r_move) ?_
  refine OW.val hS rfl rfl rfl (fun _ _ => r_move) ?_
  refine OW.val hS rfl rfl rfl (fun _ _ => r_move) ?_
  refine OW.val hS rfl rfl rfl (fun _ _ => r_move) ?_
  refine OW.val hS rfl rfl rfl (fun _ _ => r_move) ?_
  refine OW.val hS rfl rfl rfl (fun _ _ => r_nil rfl) ?_
  refine OW.val hS rfl rfl rfl (fun _ _ => r_index_arr rfl rfl arr57 (by decide) (by decide)) ?_
  refine OW.val hS rfl rfl rfl (fun _ hS => r_load rfl one43 (hS 10 (by decide))) ?_
  refine OW.val hS rfl rfl rfl (fun _ _ => r_move) ?_
  refine OW.val hS rfl rfl rfl (fun _ _ => r_nil rfl) ?_
  refine OW.val hS rfl rfl rfl (fun _ _ => r_index_arr rfl rfl arr57 (by decide) (by decide)) ?_
  refine OW.val hS rfl rfl rfl (fun _ hS => r_load rfl one43 (hS 12 (by decide))) ?_
  refine OW.call rfl rfl rfl (e_call en48) ?_
  refine (g_any _ _ _ _ _ _ _).mono ?_
  rintro e w' ⟨rfl, rfl⟩
  refine ⟨_, rfl, hS, ?_⟩
  refine OW.val hS rfl rfl rfl (fun _ _ => r_move) ?_
  refine OW.val hS rfl rfl rfl (fun _ _ => r_extract rfl rfl) ?_
  refine OW.val hS rfl rfl rfl (fun _ _ => r_extract rfl rfl) ?_
  refine OW.val hS rfl rfl rfl (fun _ _ => r_extract rfl rfl) ?_
  refine OW.val hS rfl rfl rfl (fun _ _ => r_extract rfl rfl) ?_
  refine OW.val hS rfl rfl rfl (fun _ _ => r_assign) ?_
  refine OW.val hS rfl rfl rfl (fun _ _ => r_assign) ?_
  refine OW.val hS rfl rfl rfl (fun _ _ => r_assign) ?_
  refine OW.val hS rfl rfl rfl (fun _ _ => r_assign) ?_
  clear hS
  refine OW.nil (CW.fresh (rcFr sb so mb mo (gs v1 1 5 9 13 (m 10) (m 12))) ⟨rfl, rfl, rfl, rfl, rfl, rfl, rfl, rfl, rfl, rfl, rfl, rfl, rfl, rfl, rfl, rfl, rfl, rfl, trivial⟩ (φ := fun w' => ∃ q, w' = w.drewN q) ⟨q + 1, rfl⟩ ?_)
  clear q J
  rintro J _ ⟨q, rfl⟩
  obtain ⟨v2, hv2⟩ : ∃ z, z = gs v1 1 5 9 13 (m 10) (m 12) := ⟨_, rfl⟩
  rw [← hv2]
  refine CW.seq (CW.drawn (fun w => Rd w mb mo 16 .u32 m) [(0, true), (1, true), (2, true), (3, true), (4, true), (5, true), (6, true), (7, true), (8, true), (9, true), (10, true), (11, true), (12, false), (13, true), (14, true), (15, true), (16, true), (17, true), (18, true), (19, true), (20, true), (21, true)] mixed (by kernel_rfl) (by kernel_rfl) ?_)
  have hS : Rd (w.drewN q).drew mb mo 16 .u32 m := hm
  refine OW.val hS rfl rfl rfl (fun _ _ => r_move) ?_
  refine OW.val hS rfl rfl rfl (fun _ _ => r_move) ?_
  refine OW.val hS rfl rfl rfl (fun _ _ => r_move) ?_
  refine OW.val hS rfl rfl rfl (fun _ _ => r_move) ?_
  refine OW.val hS rfl rfl rfl (fun _ _ => r_move) ?_
  refine OW.val hS rfl rfl rfl (fun _ _ => r_nil rfl) ?_
  refine OW.val hS rfl rfl rfl (fun _ _ => r_index_arr rfl rfl arr57 (by decide) (by decide)) ?_
  refine OW.val hS rfl rfl rfl (fun _ hS => r_load rfl one43 (hS 13 (by decide))) ?_
  refine OW.val hS rfl rfl rfl (fun _ _ => r_move) ?_
  refine OW.val hS rfl rfl rfl (fun _ _ => r_nil rfl) ?_
  refine OW.val hS rfl rfl rfl (fun _ _ => r_index_arr rfl rfl arr57 (by decide) (by decide)) ?_
  refine OW.val hS rfl rfl rfl (fun _ hS => r_load rfl one43 (hS 2 (by decide))) ?_
  refine OW.call rfl rfl rfl (e_call en48) ?_
  refine (g_any _ _ _ _ _ _ _).mono ?_
  rintro e w' ⟨rfl, rfl⟩
  refine ⟨_, rfl, hS, ?_⟩
  refine OW.val hS rfl rfl rfl (fun _ _ => r_move) ?_
  refine OW.val hS rfl rfl rfl (fun _ _ => r_extract rfl rfl) ?_
  refine OW.val hS rfl rfl rfl (fun _ _ => r_extract rfl rfl) ?_
  refine OW.val hS rfl rfl rfl (fun _ _ => r_extract rfl rfl) ?_
  refine OW.val hS rfl rfl rfl (fun _ _ => r_extract rfl rfl) ?_
  refine OW.val hS rfl rfl rfl (fun _ _ => r_assign) ?_
  refine OW.val hS rfl rfl rfl (fun _ _ => r_assign) ?_
  refine OW.val hS rfl rfl rfl (fun _ _ => r_assign) ?_
  refine OW.val hS rfl rfl rfl (fun _ _ => r_assign) ?_
  clear hS
  refine OW.nil (CW.fresh (rcFr sb so mb mo (gs v2 2 6 10 14 (m 13) (m 2))) ⟨rfl, rfl, rfl, rfl, rfl, rfl, rfl, rfl, rfl, rfl, rfl, rfl, rfl, rfl, rfl, rfl, rfl, rfl, trivial⟩ (φ := fun w' => ∃ q, w' = w.drewN q) ⟨q + 1, rfl⟩ ?_)
  clear q J
  rintro J _ ⟨q, rfl⟩
  obtain ⟨v3, hv3⟩ : ∃ z, z = gs v2 2 6 10 14 (m 13) (m 2) := ⟨_, rfl⟩
  rw [← hv3]
  refine CW.seq (CW.drawn (fun w => Rd w mb mo 16 .u32 m) [(0, true), (1, true), (2, true), (3, true), (4, true), (5, true), (6, true), (7, true), (8, true), (9, true), (10, true), (11, true), (12, false), (13, true), (14, true), (15, true), (16, true), (17, true), (18, true), (19, true), (20, true), (21, true)] mixed (by kernel_rfl) (by kernel_rfl) ?_)
  have hS : Rd (w.drewN q).drew mb mo 16 .u32 m := hm
  refine OW.val hS rfl rfl rfl (fun _ _ => r_move) ?_
  refine OW.val hS rfl rfl rfl (fun _ _ => r_move) ?_
  refine OW.val hS rfl rfl rfl (fun _ _ => r_move) ?_
  refine OW.val hS rfl rfl rfl (fun _ _ => r_move) ?_
  refine OW.val hS rfl rfl rfl (fun _ _ => r_move) ?_
  refine OW.val hS rfl rfl rfl (fun _ _ => r_nil rfl) ?_
  refine OW.val hS rfl rfl rfl (fun _ _ => r_index_arr rfl rfl arr57 (by decide) (by decide)) ?_
  refine OW.val hS rfl rfl rfl (fun _ hS => r_load rfl one43 (hS 7 (by decide))) ?_
  refine OW.val hS rfl rfl rfl (fun _ _ => r_move) ?_
  refine OW.val hS rfl rfl rfl (fun _ _ => r_nil rfl) ?_
  refine OW.val hS rfl rfl rfl (fun _ _ => r_index_arr rfl rfl arr57 (by decide) (by decide)) ?_
  refine OW.val hS rfl rfl rfl (fun _ hS => r_load rfl one43 (hS 14 (by decide))) ?_
  refine OW.call rfl rfl rfl (e_call en48) ?_
  refine (g_any _ _ _ _ _ _ _).mono ?_
  rintro e w' ⟨rfl, rfl⟩
  refine ⟨_, rfl, hS, ?_⟩
  refine OW.val hS rfl rfl rfl (fun _ _ => r_move) ?_
  refine OW.val hS rfl rfl rfl (fun _ _ => r_extract rfl rfl) ?_
  refine OW.val hS rfl rfl rfl (fun _ _ => r_extract rfl rfl) ?_
  refine OW.val hS rfl rfl rfl (fun _ _ => r_extract rfl rfl) ?_
  refine OW.val hS rfl rfl rfl (fun _ _ => r_extract rfl rfl) ?_
  refine OW.val hS rfl rfl rfl (fun _ _ => r_assign) ?_
  refine OW.val hS rfl rfl rfl (fun _ _ => r_assign) ?_
  refine OW.val hS rfl rfl rfl (fun _ _ => r_assign) ?_
  refine OW.val hS rfl rfl rfl (fun _ _ => r_assign) ?_
  clear hS
  refine OW.nil (CW.fresh (rcFr sb so mb mo (gs v3 3 7 11 15 (m 7) (m 14))) ⟨rfl, rfl, rfl, rfl, rfl, rfl, rfl, rfl, rfl, rfl, rfl, rfl, rfl, rfl, rfl, rfl, rfl, rfl, trivial⟩ (φ := fun w' => ∃ q, w' = w.drewN q) ⟨q + 1, rfl⟩ ?_)
  clear q J
  rintro J _ ⟨q, rfl⟩
  obtain ⟨v4, hv4⟩ : ∃ z, z = gs v3 3 7 11 15 (m 7) (m 14) := ⟨_, rfl⟩
  rw [← hv4]
  refine CW.seq (CW.drawn (fun w => Rd w mb mo 16 .u32 m) [(0, true), (1, true), (2, true), (3, true), (4, true), (5, true), (6, true), (7, true), (8, true), (9, true), (10, true), (11, true), (12, false), (13, true), (14, true), (15, true), (16, true), (17, true), (18, true), (19, true), (20, true), (21, true)] mixed (by kernel_rfl) (by kernel_rfl) ?_)
  have hS : Rd (w.drewN q).drew mb mo 16 .u32 m := hm
  refine OW.val hS rfl rfl rfl (fun _ _ => r_move) ?_
  refine OW.val hS rfl rfl rfl (fun _ _ => r_move) ?_
  refine OW.val hS rfl rfl rfl (fun _ _ => r_move) ?_
  refine OW.val hS rfl rfl rfl (fun _ _ => r_move) ?_
  refine OW.val hS rfl rfl rfl (fun _ _ => r_move) ?_
  refine OW.val hS rfl rfl rfl (fun _ _ => r_nil rfl) ?_
  refine OW.val hS rfl rfl rfl (fun _ _ => r_index_arr rfl rfl arr57 (by decide) (by decide)) ?_
  refine OW.val hS rfl rfl rfl (fun _ hS => r_load rfl one43 (hS 6 (by decide))) ?_
  refine OW.val hS rfl rfl rfl (fun _ _ => r_move) ?_
  refine OW.val hS rfl rfl rfl (fun _ _ => r_nil rfl) ?_
  refine OW.val hS rfl rfl rfl (fun _ _ => r_index_arr rfl rfl arr57 (by decide) (by decide)) ?_
  refine OW.val hS rfl rfl rfl (fun _ hS => r_load rfl one43 (hS 5 (by decide))) ?_
  refine OW.call rfl rfl rfl (e_call en48) ?_
  refine (g_any _ _ _ _ _ _ _).mono ?_
  rintro e w' ⟨rfl, rfl⟩
  refine ⟨_, rfl, hS, ?_⟩
  refine OW.val hS rfl rfl rfl (fun _ _ => r_move) ?_
  refine OW.val hS rfl rfl rfl (fun _ _ => r_extract rfl rfl) ?_
  refine OW.val hS rfl rfl rfl (fun _ _ => r_extract rfl rfl) ?_
  refine OW.val hS rfl rfl rfl (fun _ _ => r_extract rfl rfl) ?_
  refine OW.val hS rfl rfl rfl (fun _ _ => r_extract rfl rfl) ?_
  refine OW.val hS rfl rfl rfl (fun _ _ => r_assign) ?_
  refine OW.val hS rfl rfl rfl (fun _ _ => r_assign) ?_
  refine OW.val hS rfl rfl rfl (fun _ _ => r_assign) ?_
  refine OW.val hS rfl rfl rfl (fun _ _ => r_assign) ?_
  clear hS
  refine OW.nil (CW.fresh (rcFr sb so mb mo (gs v4 0 5 10 15 (m 6) (m 5))) ⟨rfl, rfl, rfl, rfl, rfl, rfl, rfl, rfl, rfl, rfl, rfl, rfl, rfl, rfl, rfl, rfl, rfl, rfl, trivial⟩ (φ := fun w' => ∃ q, w' = w.drewN q) ⟨q + 1, rfl⟩ ?_)
  clear q J
  rintro J _ ⟨q, rfl⟩
  obtain ⟨v5, hv5⟩ : ∃ z, z = gs v4 0 5 10 15 (m 6) (m 5) := ⟨_, rfl⟩
  rw [← hv5]
  refine CW.seq (CW.drawn (fun w => Rd w mb mo 16 .u32 m) [(0, true), (1, true), (2, true), (3, true), (4, true), (5, true), (6, true), (7, true), (8, true), (9, true), (10, true), (11, true), (12, false), (13, true), (14, true), (15, true), (16, true), (17, true), (18, true), (19, true), (20, true), (21, true)] mixed (by kernel_rfl) (by kernel_rfl) ?_)
  have hS : Rd (w.drewN q).drew mb mo 16 .u32 m := hm
  refine OW.val hS rfl rfl rfl (fun _ _ => r_move) ?_
  refine OW.val hS rfl rfl rfl (fun _ _ => r_move) ?_
  refine OW.val hS rfl rfl rfl (fun _ _ => r_move) ?_
  refine OW.val hS rfl rfl rfl (fun _ _ => r_move) ?_
  refine OW.val hS rfl rfl rfl (fun _ _ => r_move) ?_
  refine OW.val hS rfl rfl rfl (fun _ _ => r_nil rfl) ?_
  refine OW.val hS rfl rfl rfl (fun _ _ => r_index_arr rfl rfl arr57 (by decide) (by decide)) ?_
  refine OW.val hS rfl rfl rfl (fun _ hS => r_load rfl one43 (hS 9 (by decide))) ?_
  refine OW.val hS rfl rfl rfl (fun _ _ => r_move) ?_
  refine OW.val hS rfl rfl rfl (fun _ _ => r_nil rfl) ?_
  refine OW.val hS rfl rfl rfl (fun _ _ => r_index_arr rfl rfl arr57 (by decide) (by decide)) ?_
  refine OW.val hS rfl rfl rfl (fun _ hS => r_load rfl one43 (hS 0 (by decide))) ?_
  refine OW.call rfl rfl rfl (e_call en48) ?_
  refine (g_any _ _ _ _ _ _ _).mono ?_
  rintro e w' ⟨rfl, rfl⟩
  refine ⟨_, rfl, hS, ?_⟩
  refine OW.val hS rfl rfl rfl (fun _ _ => r_move) ?_
  refine OW.val hS rfl rfl rfl (fun _ _ => r_extract rfl rfl) ?_
  refine OW.val hS rfl rfl rfl (fun _ _ => r_extract rfl rfl) ?_
  refine OW.val hS rfl rfl rfl (fun _ _ => r_extract rfl rfl) ?_
  refine OW.val hS rfl rfl rfl (fun _ _ => r_extract rfl rfl) ?_
  refine OW.val hS rfl rfl rfl (fun _ _ => r_assign) ?_
  refine OW.val hS rfl rfl rfl (fun _ _ => r_assign) ?_
  refine OW.val hS rfl rfl rfl (fun _ _ => r_assign) ?_
  refine OW.val hS rfl rfl rfl (fun _ _ => r_assign) ?_
  clear hS
  refine OW.nil (CW.fresh (rcFr sb so mb mo (gs v5 1 6 11 12 (m 9) (m 0))) ⟨rfl, rfl, rfl, rfl, rfl, rfl, rfl, rfl, rfl, rfl, rfl, rfl, rfl, rfl, rfl, rfl, rfl, rfl, trivial⟩ (φ := fun w' => ∃ q, w' = w.drewN q) ⟨q + 1, rfl⟩ ?_)
  clear q J
  rintro J _ ⟨q, rfl⟩
  obtain ⟨v6, hv6⟩ : ∃ z, z = gs v5 1 6 11 12 (m 9) (m 0) := ⟨_, rfl⟩
  rw [← hv6]
  refine CW.seq (CW.drawn (fun w => Rd w mb mo 16 .u32 m) [(0, true), (1, true), (2, true), (3, true), (4, true), (5, true), (6, true), (7, true), (8, true), (9, true), (10, true), (11, true), (12, false), (13, true), (14, true), (15, true), (16, true), (17, true), (18, true), (19, true), (20, true), (21, true)] mixed (by kernel_rfl) (by kernel_rfl) ?_)
  have hS : Rd (w.drewN q).drew mb mo 16 .u32 m := hm
  refine OW.val hS rfl rfl rfl (fun _ _ => r_move) ?_
  refine OW.val hS rfl rfl rfl (fun _ _ => r_move) ?_
  refine OW.val hS rfl rfl rfl (fun _ _ => r_move) ?_
  refine OW.val hS rfl rfl rfl (fun _ _ => r_move) ?_
  refine OW.val hS rfl rfl rfl (fun _ _ => r_move) ?_
  refine OW.val hS rfl rfl rfl (fun _ _ => r_nil rfl) ?_
  refine OW.val hS rfl rfl rfl (fun _ _ => r_index_arr rfl rfl arr57 (by decide) (by decide)) ?_
  refine OW.val hS rfl rfl rfl (fun _ hS => r_load rfl one43 (hS 11 (by decide))) ?_
  refine OW.val hS rfl rfl rfl (fun _ _ => r_move) ?_
  refine OW.val hS rfl rfl rfl (fun _ _ => r_nil rfl) ?_
  refine OW.val hS rfl rfl rfl (fun _ _ => r_index_arr rfl rfl arr57 (by decide) (by decide)) ?_
  refine OW.val hS rfl rfl rfl (fun _ hS => r_load rfl one43 (hS 15 (by decide))) ?_
  refine OW.call rfl rfl rfl (e_call en48) ?_
  refine (g_any _ _ _ _ _ _ _).mono ?_
  rintro e w' ⟨rfl, rfl⟩
  refine ⟨_, rfl, hS, ?_⟩
  refine OW.val hS rfl rfl rfl (fun _ _ => r_move) ?_
  refine OW.val hS rfl rfl rfl (fun _ _ => r_extract rfl rfl) ?_
  refine OW.val hS rfl rfl rfl (fun _ _ => r_extract rfl rfl) ?_
  refine OW.val hS rfl rfl rfl (fun _ _ => r_extract rfl rfl) ?_
  refine OW.val hS rfl rfl rfl (fun _ _ => r_extract rfl rfl) ?_
  refine OW.val hS rfl rfl rfl (fun _ _ => r_assign) ?_
  refine OW.val hS rfl rfl rfl (fun _ _ => r_assign) ?_
  refine OW.val hS rfl rfl rfl (fun _ _ => r_assign) ?_
  refine OW.val hS rfl rfl rfl (fun _ _ => r_assign) ?_
  clear hS
  refine OW.nil (CW.fresh (rcFr sb so mb mo (gs v6 2 7 8 13 (m 11) (m 15))) ⟨rfl, rfl, rfl, rfl, rfl, rfl, rfl, rfl, rfl, rfl, rfl, rfl, rfl, rfl, rfl, rfl, rfl, rfl, trivial⟩ (φ := fun w' => ∃ q, w' = w.drewN q) ⟨q + 1, rfl⟩ ?_)
  clear q J
  rintro J _ ⟨q, rfl⟩
  obtain ⟨v7, hv7⟩ : ∃ z, z = gs v6 2 7 8 13 (m 11) (m 15) := ⟨_, rfl⟩
  rw [← hv7]
  refine CW.seq (CW.drawn (fun w => Rd w mb mo 16 .u32 m) [(0, true), (1, true), (2, true), (3, true), (4, true), (5, true), (6, true), (7, true), (8, true), (9, true), (10, true), (11, true), (12, false), (13, true), (14, true), (15, true), (16, true), (17, true), (18, true), (19, true), (20, true), (21, true)] mixed (by kernel_rfl) (by kernel_rfl) ?_)
  have hS : Rd (w.drewN q).drew mb mo 16 .u32 m := hm
  refine OW.val hS rfl rfl rfl (fun _ _ => r_move) ?_
  refine OW.val hS rfl rfl rfl (fun _ _ => r_move) ?_
  refine OW.val hS rfl rfl rfl (fun _ _ => r_move) ?_
  refine OW.val hS rfl rfl rfl (fun _ _ => r_move) ?_
  refine OW.val hS rfl rfl rfl (fun _ _ => r_move) ?_
  refine OW.val hS rfl rfl rfl (fun _ _ => r_nil rfl) ?_
  refine OW.val hS rfl rfl rfl (fun _ _ => r_index_arr rfl rfl arr57 (by decide) (by decide)) ?_
  refine OW.val hS rfl rfl rfl (fun _ hS => r_load rfl one43 (hS 8 (by decide))) ?_
  refine OW.val hS rfl rfl rfl (fun _ _ => r_move) ?_
  refine OW.val hS rfl rfl rfl (fun _ _ => r_nil rfl) ?_
  refine OW.val hS rfl rfl rfl (fun _ _ => r_index_arr rfl rfl arr57 (by decide) (by decide)) ?_
  refine OW.val hS rfl rfl rfl (fun _ hS => r_load rfl one43 (hS 1 (by decide))) ?_
  refine OW.call rfl rfl rfl (e_call en48) ?_
  refine (g_any _ _ _ _ _ _ _).mono ?_
  rintro e w' ⟨rfl, rfl⟩
  refine ⟨_, rfl, hS, ?_⟩
  refine OW.val hS rfl rfl rfl (fun _ _ => r_move) ?_
  refine OW.val hS rfl rfl rfl (fun _ _ => r_extract rfl rfl) ?_
  refine OW.val hS rfl rfl rfl (fun _ _ => r_extract rfl rfl) ?_
  refine OW.val hS rfl rfl rfl (fun _ _ => r_extract rfl rfl) ?_
  refine OW.val hS rfl rfl rfl (fun _ _ => r_extract rfl rfl) ?_
  refine OW.val hS rfl rfl rfl (fun _ _ => r_assign) ?_
  refine OW.val hS rfl rfl rfl (fun _ _ => r_assign) ?_
  refine OW.val hS rfl rfl rfl (fun _ _ => r_assign) ?_
  refine OW.val hS rfl rfl rfl (fun _ _ => r_assign) ?_
  clear hS
  refine OW.nil (CW.fresh (rcFr sb so mb mo (gs v7 3 4 9 14 (m 8) (m 1))) ⟨rfl, rfl, rfl, rfl, rfl, rfl, rfl, rfl, rfl, rfl, rfl, rfl, rfl, rfl, rfl, rfl, rfl, rfl, trivial⟩ (φ := fun w' => ∃ q, w' = w.drewN q) ⟨q + 1, rfl⟩ ?_)
  clear q J
  rintro J _ ⟨q, rfl⟩
  obtain ⟨v8, hv8⟩ : ∃ z, z = gs v7 3 4 9 14 (m 8) (m 1) := ⟨_, rfl⟩
  rw [← hv8]
  have hv : v8 = rnd2 v m := by
    subst hv8 hv7 hv6 hv5 hv4 hv3 hv2 hv1
    rfl
  rw [hv]
  exact h J q
set_option maxHeartbeats 4000000 in
set_option maxRecDepth 10000 in
theorem rc_rnd3 (k : Cont) (J : Env) (sb so mb mo q : Nat) (v m : Nat → Int) (w : World) (hm : Rd w mb mo 16 .u32 m) (h : ∀ J q, CW Tryd.prog 1212 (codeTl 36 rcBody) k (tab J (rcFr sb so mb mo (rnd3 v m))) (w.drewN q)) :
    CW Tryd.prog 1212 (codeTl 28 rcBody) k (tab J (rcFr sb so mb mo v)) (w.drewN q) := by
  refine CW.seq (CW.drawn (fun w => Rd w mb mo 16 .u32 m) [(0, true), (1, true), (2, true), (3, true), (4, true), (5, true), (6, true), (7, true), (8, true), (9, true), (10, true), (11, true), (12, false), (13, true), (14, true), (15, true), (16, true), (17, true), (18, true), (19, true), (20, true), (21, true)] mixed (by kernel_rfl) (by kernel_rfl) ?_)
  have hS : Rd (w.drewN q).drew mb mo 16 .u32 m := hm
  refine OW.val hS rfl rfl rfl (fun _ _ => r_move) ?_
  refine OW.val hS rfl rfl rfl (fun _ _ => r_move) ?_
  refine OW.val hS rfl rfl rfl (fun _ _ => r_move) ?_
  refine OW.val hS rfl rfl rfl (fun _ _ => r_move) ?_
  refine OW.val hS rfl rfl rfl (fun _ _ => r_move) ?_
  refine OW.val hS rfl rfl rfl (fun _ _ => r_nil rfl) ?_
  refine OW.val hS rfl rfl rfl (fun _ _ => r_index_arr rfl rfl arr57 (by decide) (by decide)) ?_
  refine OW.val hS rfl rfl rfl (fun _ hS => r_load rfl one43 (hS 10 (by decide))) ?_
  refine OW.val hS rfl rfl rfl (fun _ _ => r_move) ?_
  refine OW.val hS rfl rfl rfl (fun _ _ => r_nil rfl) ?_
  refine OW.val hS rfl rfl rfl (fun _ _ => r_index_arr rfl rfl arr57 (by decide) (by decide)) ?_
  refine OW.val hS rfl rfl rfl (fun _ hS => r_load rfl one43 (hS 7 (by decide))) ?_
  refine OW.call rfl rfl rfl (e_call en48) ?_
  refine (g_any _ _ _ _ _ _ _).mono ?_
  rintro e w' ⟨rfl, rfl⟩
  refine ⟨_, rfl, hS, ?_⟩
  refine OW.val hS rfl rfl rfl (fun _ _ => r_move) ?_
  refine OW.val hS rfl rfl rfl (fun _ _ => r_extract rfl rfl) ?_
  refine OW.val hS rfl rfl rfl (fun _ _ => r_extract rfl rfl) ?_
  refine OW.val hS rfl rfl rfl (fun _ _ => r_extract rfl rfl) ?_
  refine OW.val hS rfl rfl rfl (fun _ _ => r_extract rfl rfl) ?_
  refine OW.val hS rfl rfl rfl (fun _ _ => r_assign) ?_
  refine OW.val hS rfl rfl rfl (fun _ _ => r_assign) ?_
  refine OW.val hS rfl rfl rfl (fun _ _ => r_assign) ?_
  refine OW.val hS rfl rfl rfl (fun _ _ => r_assign) ?_
  clear hS
  refine OW.nil (CW.fresh (rcFr sb so mb mo (gs v 0 4 8 12 (m 10) (m 7))) ⟨rfl, rfl, rfl, rfl, rfl, rfl, rfl, rfl, rfl, rfl, rfl, rfl, rfl, rfl, rfl, rfl, rfl, rfl, trivial⟩ (φ := fun w' => ∃ q, w' = w.drewN q) ⟨q + 1, rfl⟩ ?_)
  clear q J
  rintro J _ ⟨q, rfl⟩
  obtain ⟨v1, hv1⟩ : ∃ z, z = gs v 0 4 8 12 (m 10) (m 7) := ⟨_, rfl⟩
  rw [← hv1]
  refine CW.seq (CW.drawn (fun w => Rd w mb mo 16 .u32 m) [(0, true), (1, true), (2, true), (3, true), (4, true), (5, true), (6, true), (7, true), (8, true), (9, true), (10, true), (11, true), (12, false), (13, true), (14, true), (15, true), (16, true), (17, true), (18, true), (19, true), (20, true), (21, true)] mixed (by kernel_rfl) (by kernel_rfl) ?_)
  have hS : Rd (w.drewN q).drew mb mo 16 .u32 m := hm
  refine OW.val hS rfl rfl rfl (fun _ _ => r_move) ?_
  refine OW.val hS rfl rfl rfl (fun _ _ => r_move) ?_
  refine OW.val hS rfl rfl rfl (fun _ _ => r_move) ?_
  refine OW.val hS rfl rfl rfl (fun _ _ => r_move) ?_
  refine OW.val hS rfl rfl rfl (fun _ _ => r_move) ?_
  refine OW.val hS rfl rfl rfl (fun _ _ => r_nil rfl) ?_
  refine OW.val hS rfl rfl rfl (fun _ _ => r_index_arr rfl rfl arr57 (by decide) (by decide)) ?_
  refine OW.val hS rfl rfl rfl (fun _ hS => r_load rfl one43 (hS 12 (by decide))) ?_
  refine OW.val hS rfl rfl rfl (fun _ _ => r_move) ?_
  refine OW.val hS rfl rfl rfl (fun _ _ => r_nil rfl) ?_
  refine OW.val hS rfl rfl rfl (fun _ _ => r_index_arr rfl rfl arr57 (by decide) (by decide)) ?_
  refine OW.val hS rfl rfl rfl (fun _ hS => r_load rfl one43 (hS 9 (by decide))) ?_
  refine OW.call rfl rfl rfl (e_call en48) ?_
  refine (g_any _ _ _ _ _ _ _).mono ?_
  rintro e w' ⟨rfl, rfl⟩
  refine ⟨_, rfl, hS, ?_⟩
  refine OW.val hS rfl rfl rfl (fun _ _ => r_move) ?_
  refine OW.val hS rfl rfl rfl (fun _ _ => r_extract rfl rfl) ?_
  refine OW.val hS rfl rfl rfl (fun _ _ => r_extract rfl rfl) ?_
  refine OW.val hS rfl rfl rfl (fun _ _ => r_extract rfl rfl) ?_
  refine OW.val hS rfl rfl rfl (fun _ _ => r_extract rfl rfl) ?_
  refine OW.val hS rfl rfl rfl (fun _ _ => r_assign) ?_
  refine OW.val hS rfl rfl rfl (fun _ _ => r_assign) ?_
  refine OW.val hS rfl rfl rfl (fun _ _ => r_assign) ?_
  refine OW.val hS rfl rfl rfl (fun _ _ => r_assign) ?_
  clear hS
  refine OW.nil (CW.fresh (rcFr sb so mb mo (gs v1 1 5 9 13 (m 12) (m 9))) ⟨rfl, rfl, rfl, rfl, rfl, rfl, rfl, rfl, rfl, rfl, rfl, rfl, rfl, rfl, rfl, rfl, rfl, rfl, trivial⟩ (φ := fun w' => ∃ q, w' = w.drewN q) ⟨q + 1, rfl⟩ ?_)
  clear q J
  rintro J _ ⟨q, rfl⟩
  obtain ⟨v2, hv2⟩ : ∃ z, z = gs v1 1 5 9 13 (m 12) (m 9) := ⟨_, rfl⟩
  rw [← hv2]
  refine CW.seq (CW.drawn (fun w => Rd w mb mo 16 .u32 m) [(0, true), (1, true), (2, true), (3, true), (4, true), (5, true), (6, true), (7, true), (8, true), (9, true), (10, true), (11, true), (12, false), (13, true), (14, true), (15, true), (16, true), (17, true), (18, true), (19, true), (20, true), (21, true)] mixed (by kernel_rfl) (by kernel_rfl) ?_)
  have hS : Rd (w.drewN q).drew mb mo 16 .u32 m := hm
  refine OW.val hS rfl rfl rfl (fun _ _ => r_move) ?_
  refine OW.val hS rfl rfl rfl (fun _ _ => r_move) ?_
  refine OW.val hS rfl rfl rfl (fun _ _ => r_move) ?_
  refine OW.val hS rfl rfl rfl (fun _ _ => r_move) ?_
  refine OW.val hS rfl rfl rfl (fun _ _ => r_move) ?_
  refine OW.val hS rfl rfl rfl (fun _ _ => r_nil rfl) ?_
  refine OW.val hS rfl rfl rfl (fun _ _ => r_index_arr rfl rfl arr57 (by decide) (by decide)) ?_
  refine OW.val hS rfl rfl rfl (fun _ hS => r_load rfl one43 (hS 14 (by decide))) ?_
  refine OW.val hS rfl rfl rfl (fun _ _ => r_move) ?_
  refine OW.val hS rfl rfl rfl (fun _ _ => r_nil rfl) ?_
  refine OW.val hS rfl rfl rfl (fun _ _ => r_index_arr rfl rfl arr57 (by decide) (by decide)) ?_
  refine OW.val hS rfl rfl rfl (fun _ hS => r_load rfl one43 (hS 3 (by decide))) ?_
  refine OW.call rfl rfl rfl (e_call en48) ?_
  refine (g_any _ _ _ _ _ _ _).mono ?_
  rintro e w' ⟨rfl, rfl⟩
  refine ⟨_, rfl, hS, ?_⟩
  refine OW.val hS rfl rfl rfl (fun _ _ => r_move) ?_
  refine OW.val hS rfl rfl rfl (fun _ _ => r_extract rfl rfl) ?_
  refine OW.val hS rfl rfl rfl (fun _ _ => r_extract rfl rfl) ?_
  refine OW.val hS rfl rfl rfl (fun _ _ => r_extract rfl rfl) ?_
  refine OW.val hS rfl rfl rfl (fun _ _ => r_extract rfl rfl) ?_
  refine OW.val hS rfl rfl rfl (fun _ _ => r_assign) ?_
  refine OW.val hS rfl rfl rfl (fun _ _ => r_assign) ?_
  refine OW.val hS rfl rfl rfl (fun _ _ => r_assign) ?_
  refine OW.val hS rfl rfl rfl (fun _ _ => r_assign) ?_
  clear hS
  refine OW.nil (CW.fresh (rcFr sb so mb mo (gs v2 2 6 10 14 (m 14) (m 3))) ⟨rfl, rfl, rfl, rfl, rfl, rfl, rfl, rfl, rfl, rfl, rfl, rfl, rfl, rfl, rfl, rfl, rfl, rfl, trivial⟩ (φ := fun w' => ∃ q, w' = w.drewN q) ⟨q + 1, rfl⟩ ?_)
  clear q J
  rintro J _ ⟨q, rfl⟩
  obtain ⟨v3, hv3⟩ : ∃ z, z = gs v2 2 6 10 14 (m 14) (m 3) := ⟨_, rfl⟩
  rw [← hv3]
  refine CW.seq (CW.drawn (fun w => Rd w mb mo 16 .u32 m) [(0, true), (1, true), (2, true), (3, true), (4, true), (5, true), (6, true), (7, true), (8, true), (9, true), (10, true), (11, true), (12, false), (13, true), (14, true), (15, true), (16, true), (17, true), (18, true), (19, true), (20, true), (21, true)] mixed (by kernel_rfl) (by kernel_rfl) ?_)
  have hS : Rd (w.drewN q).drew mb mo 16 .u32 m := hm
  refine OW.val hS rfl rfl rfl (fun _ _ => r_move) ?_
  refine OW.val hS rfl rfl rfl (fun _ _ => r_move) ?_
  refine OW.val hS rfl rfl rfl (fun _ _ => r_move) ?_
  refine OW.val hS rfl rfl rfl (fun _ _ => r_move) ?_
  refine OW.val hS rfl rfl rfl (fun _ _ => r_move) ?_
  refine OW.val hS rfl rfl rfl (fun _ _ => r_nil rfl) ?_
  refine OW.val hS rfl rfl rfl (fun _ _ => r_index_arr rfl rfl arr57 (by decide) (by decide)) ?_
  refine OW.val hS rfl rfl rfl (fun _ hS => r_load rfl one43 (hS 13 (by decide))) ?_
  refine OW.val hS rfl rfl rfl (fun _ _ => r_move) ?_
  refine OW.val hS rfl rfl rfl (fun _ _ => r_nil rfl) ?_
  refine OW.val hS rfl rfl rfl (fun _ _ => r_index_arr rfl rfl arr57 (by decide) (by decide)) ?_
  refine OW.val hS rfl rfl rfl (fun _ hS => r_load rfl one43 (hS 15 (by decide))) ?_
  refine OW.call rfl rfl rfl (e_call en48) ?_
  refine (g_any _ _ _ _ _ _ _).mono ?_
  rintro e w' ⟨rfl, rfl⟩
  refine ⟨_, rfl, hS, ?_⟩
  refine OW.val hS rfl rfl rfl (fun _ _ => r_move) ?_
  refine OW.val hS rfl rfl rfl (fun _ _ => r_extract rfl rfl) ?_
  refine OW.val hS rfl rfl rfl (fun _ _ => r_extract rfl rfl) ?_
  refine OW.val hS rfl rfl rfl (fun _ _ => r_extract rfl rfl) ?_
  refine OW.val hS rfl rfl rfl (fun _ _ => r_extract rfl rfl) ?_
  refine OW.val hS rfl rfl rfl (fun _ _ => r_assign) ?_
  refine OW.val hS rfl rfl rfl (fun _ _ => r_assign) ?_
  refine OW.val hS rfl rfl rfl (fun _ _ => r_assign) ?_
  refine OW.val hS rfl rfl rfl (fun _ _ => r_assign) ?_
  clear hS
  refine OW.nil (CW.fresh (rcFr sb so mb mo (gs v3 3 7 11 15 (m 13) (m 15))) ⟨rfl, rfl, rfl, rfl, rfl, rfl, rfl, rfl, rfl, rfl, rfl, rfl, rfl, rfl, rfl, rfl, rfl, rfl, trivial⟩ (φ := fun w' => ∃ q, w' = w.drewN q) ⟨q + 1, rfl⟩ ?_)
  clear q J
  rintro J _ ⟨q, rfl⟩
  obtain ⟨v4, hv4⟩ : ∃ z, z = gs v3 3 7 11 15 (m 13) (m 15) := ⟨_, rfl⟩
  rw [← hv4]
  refine CW.seq (CW.drawn (fun w => Rd w mb mo 16 .u32 m) [(0, true), (1, true), (2, true), (3, true), (4, true), (5, true), (6, true), (7, true), (8, true), (9, true), (10, true), (11, true), (12, false), (13, true), (14, true), (15, true), (16, true), (17, true), (18, true), (19, true), (20, true), (21, true)] mixed (by kernel_rfl) (by kernel_rfl) ?_)
  have hS : Rd (w.drewN q).drew mb mo 16 .u32 m := hm
  refine OW.val hS rfl rfl rfl (fun _ _ => r_move) ?_
  refine OW.val hS rfl rfl rfl (fun _ _ => r_move) ?_
  refine OW.val hS rfl rfl rfl (fun _ _ => r_move) ?_
  refine OW.val hS rfl rfl rfl (fun _ _ => r_move) ?_
  refine OW.val hS rfl rfl rfl (fun _ _ => r_move) ?_
  refine OW.val hS rfl rfl rfl (fun _ _ => r_nil rfl) ?_
  refine OW.val hS rfl rfl rfl (fun _ _ => r_index_arr rfl rfl arr57 (by decide) (by decide)) ?_
  refine OW.val hS rfl rfl rfl (fun _ hS => r_load rfl one43 (hS 4 (by decide))) ?_
  refine OW.val hS rfl rfl rfl (fun _ _ => r_move) ?_
  refine OW.val hS rfl rfl rfl (fun _ _ => r_nil rfl) ?_
  refine OW.val hS rfl rfl rfl (fun _ _ => r_index_arr rfl rfl arr57 (by decide) (by decide)) ?_
  refine OW.val hS rfl rfl rfl (fun _ hS => r_load rfl one43 (hS 0 (by decide))) ?_
  refine OW.call rfl rfl rfl (e_call en48) ?_
  refine (g_any _ _ _ _ _ _ _).mono ?_
  rintro e w' ⟨rfl, rfl⟩
  refine ⟨_, rfl, hS, ?_⟩
  refine OW.val hS rfl rfl rfl (fun _ _ => r_move) ?_
  refine OW.val hS rfl rfl rfl (fun _ _ => r_extract rfl rfl) ?_
  refine OW.val hS rfl rfl rfl (fun _ _ => r_extract rfl rfl) ?_
  refine OW.val hS rfl rfl rfl (fun _ _ => r_extract rfl rfl) ?_
  refine OW.val hS rfl rfl rfl (fun _ _ => r_extract rfl rfl) ?_
  refine OW.val hS rfl rfl rfl (fun _ _ => r_assign) ?_
  refine OW.val hS rfl rfl rfl (fun _ _ => r_assign) ?_
  refine OW.val hS rfl rfl rfl (fun _ _ => r_assign) ?_
  refine OW.val hS rfl rfl rfl (fun _ _ => r_assign) ?_
  clear hS
  refine OW.nil (CW.fresh (rcFr sb so mb mo (gs v4 0 5 10 15 (m 4) (m 0))) ⟨rfl, rfl, rfl, rfl, rfl, rfl, rfl, rfl, rfl, rfl, rfl, rfl, rfl, rfl, rfl, rfl, rfl, rfl, trivial⟩ (φ := fun w' => ∃ q, w' = w.drewN q) ⟨q + 1, rfl⟩ ?_)
  clear q J
  rintro J _ ⟨q, rfl⟩
  obtain ⟨v5, hv5⟩ : ∃ z, z = gs v4 0 5 10 15 (m 4) (m 0) := ⟨_, rfl⟩
  rw [← hv5]
  refine CW.seq (CW.drawn (fun w => Rd w mb mo 16 .u32 m) [(0, true), (1, true), (2, true), (3, true), (4, true), (5, true), (6, true), (7, true), (8, true), (9, true), (10, true), (11, true), (12, false), (13, true), (14, true), (15, true), (16, true), (17, true), (18, true), (19, true), (20, true), (21, true)] mixed (by kernel_rfl) (by kernel_rfl) ?_)
  have hS : Rd (w.drewN q).drew mb mo 16 .u32 m := hm
  refine OW.val hS rfl rfl rfl (fun _ _ => r_move) ?_
  refine OW.val hS rfl rfl rfl (fun _ _ => r_move) ?_
  refine OW.val hS rfl rfl rfl (fun _ _ => r_move) ?_
  refine OW.val hS rfl rfl rfl (fun _ _ => r_move) ?_
  refine OW.val hS rfl rfl rfl (fun _ _ => r_move) ?_
  refine OW.val hS rfl rfl rfl (fun _ _ => r_nil rfl) ?_
  refine OW.val hS rfl rfl rfl (fun _ _ => r_index_arr rfl rfl arr57 (by decide) (by decide)) ?_
  refine OW.val hS rfl rfl rfl (fun _ hS => r_load rfl one43 (hS 11 (by decide))) ?_
  refine OW.val hS rfl rfl rfl (fun _ _ => r_move) ?_
  refine OW.val hS rfl rfl rfl (fun _ _ => r_nil rfl) ?_
  refine OW.val hS rfl rfl rfl (fun _ _ => r_index_arr rfl rfl arr57 (by decide) (by decide)) ?_
  refine OW.val hS rfl rfl rfl (fun _ hS => r_load rfl one43 (hS 2 (by decide))) ?_
  refine OW.call rfl rfl rfl (e_call en48) ?_
  refine (g_any _ _ _ _ _ _ _).mono ?_
  rintro e w' ⟨rfl, rfl⟩
  refine ⟨_, rfl, hS, ?_⟩
  refine OW.val hS rfl rfl rfl (fun _ _ => r_move) ?_
  refine OW.val hS rfl rfl rfl (fun _ _ => r_extract rfl rfl) ?_
  refine OW.val hS rfl rfl rfl (fun _ _ => r_extract rfl rfl) ?_
  refine OW.val hS rfl rfl rfl (fun _ _ => r_extract rfl rfl) ?_
  refine OW.val hS rfl rfl rfl (fun _ _ => r_extract rfl rfl) ?_
  refine OW.val hS rfl rfl rfl (fun _ _ => r_assign) ?_
  refine OW.val hS rfl rfl rfl (fun _ _ => r_assign) ?_
  refine OW.val hS rfl rfl rfl (fun _ _ => r_assign) ?_
  refine OW.val hS rfl rfl rfl (fun _ _ => r_assign) ?_
  clear hS
  refine OW.nil (CW.fresh (rcFr sb so mb mo (gs v5 1 6 11 12 (m 11) (m 2))) ⟨rfl, rfl, rfl, rfl, rfl, rfl, rfl, rfl, rfl, rfl, rfl, rfl, rfl, rfl, rfl, rfl, rfl, rfl, trivial⟩ (φ := fun w' => ∃ q, w' = w.drewN q) ⟨q + 1, rfl⟩ ?_)
  clear q J
  rintro J _ ⟨q, rfl⟩
  obtain ⟨v6, hv6⟩ : ∃ z, z = gs v5 1 6 11 12 (m 11) (m 2) := ⟨_, rfl⟩
  rw [← hv6]
  refine CW.seq (CW.drawn (fun w => Rd w mb mo 16 .u32 m) [(0, true), (1, true), (2, true), (3, true), (4, true), (5, true), (6, true), (7, true), (8, true), (9, true), (10, true), (11, true), (12, false), (13, true), (14, true), (15, true), (16, true), (17, true), (18, true), (19, true), (20, true), (21, true)] mixed (by kernel_rfl) (by kernel_rfl) ?_)
  have hS : Rd (w.drewN q).drew mb mo 16 .u32 m := hm
  refine OW.val hS rfl rfl rfl (fun _ _ => r_move) ?_
  refine OW.val hS rfl rfl rfl (fun _ _ => r_move) ?_
  refine OW.val hS rfl rfl rfl (fun _ _ => r_move) ?_
  refine OW.val hS rfl rfl rfl (fun _ _ => r_move) ?_
  refine OW.val hS rfl rfl rfl (fun _ _ => r_move) ?_
  refine OW.val hS rfl rfl rfl (fun _ _ => r_nil rfl) ?_
  refine OW.val hS rfl rfl rfl (fun _ _ => r_index_arr rfl rfl arr57 (by decide) (by decide)) ?_
  refine OW.val hS rfl rfl rfl (fun _ hS => r_load rfl one43 (hS 5 (by decide))) ?_
  refine OW.val hS rfl rfl rfl (fun _ _ => r_move) ?_
  refine OW.val hS rfl rfl rfl (fun _ _ => r_nil rfl) ?_
  refine OW.val hS rfl rfl rfl (fun _ _ => r_index_arr rfl rfl arr57 (by decide) (by decide)) ?_
  refine OW.val hS rfl rfl rfl (fun _ hS => r_load rfl one43 (hS 8 (by decide))) ?_
  refine OW.call rfl rfl rfl (e_call en48) ?_
  refine (g_any _ _ _ _ _ _ _).mono ?_
  rintro e w' ⟨rfl, rfl⟩
  refine ⟨_, rfl, hS, ?_⟩
  refine OW.val hS rfl rfl rfl (fun _ _ => r_move) ?_
  refine OW.val hS rfl rfl rfl (fun _ _ => r_extract rfl rfl) ?_
  refine OW.val hS rfl rfl rfl (fun _ _ => r_extract rfl rfl) ?_
  refine OW.val hS rfl rfl rfl (fun _ _ => r_extract rfl rfl) ?_
  refine OW.val hS rfl rfl rfl (fun _ _ => r_extract rfl rfl) ?_
  refine OW.val hS rfl rfl rfl (fun _ _ => r_assign) ?_
  refine OW.val hS rfl rfl rfl (fun _ _ => r_assign) ?_
  refine OW.val hS rfl rfl rfl (fun _ _ => r_assign) ?_
  refine OW.val hS rfl rfl rfl (fun _ _ => r_assign) ?_
  clear hS
  refine OW.nil (CW.fresh (rcFr sb so mb mo (gs v6 2 7 8 13 (m 5) (m 8))) ⟨rfl, rfl, rfl, rfl, rfl, rfl, rfl, rfl, rfl, rfl, rfl, rfl, rfl, rfl, rfl, rfl, rfl, rfl, trivial⟩ (φ := fun w' => ∃ q, w' = w.drewN q) ⟨q + 1, rfl⟩ ?_)
  clear q J
  rintro J _ ⟨q, rfl⟩
  obtain ⟨v7, hv7⟩ : ∃ z, z = gs v6 2 7 8 13 (m 5) (m 8) := ⟨_, rfl⟩
  rw [← hv7]
  refine CW.seq (CW.drawn (fun w => Rd w mb mo 16 .u32 m) [(0, true), (1, true), (2, true), (3, true), (4, true), (5, true), (6, true), (7, true), (8, true), (9, true), (10, true), (11, true), (12, false), (13, true), (14, true), (15, true), (16, true), (17, true), (18, true), (19, true), (20, true), (21, true)] mixed (by kernel_rfl) (by kernel_rfl) ?_)
  have hS : Rd (w.drewN q).drew mb mo 16 .u32 m := hm
  refine OW.val hS rfl rfl rfl (fun _ _ => r_move) ?_
  refine OW.val hS rfl rfl rfl (fun _ _ => r_move) ?_
  refine OW.val hS rfl rfl rfl (fun _ _ => r_move) ?_
  refine OW.val hS rfl rfl rfl (fun _ _ => r_move) ?_
  refine OW.val hS rfl rfl rfl (fun _ _ => r_move) ?_
  refine OW.val hS rfl rfl rfl (fun _ _ => r_nil rfl) ?_
  refine OW.val hS rfl rfl rfl (fun _ _ => r_index_arr rfl rfl arr57 (by decide) (by decide)) ?_
  refine OW.val hS rfl rfl rfl (fun _ hS => r_load rfl one43 (hS 1 (by decide))) ?_
  refine OW.val hS rfl rfl rfl (fun _ _ => r_move) ?_
  refine OW.val hS rfl rfl rfl (fun _ _ => r_nil rfl) ?_
  refine OW.val hS rfl rfl rfl (fun _ _ => r_index_arr rfl rfl arr57 (by decide) (by decide)) ?_
  refine OW.val hS rfl rfl rfl (fun _ hS => r_load rfl one43 (hS 6 (by decide))) ?_
  refine OW.call rfl rfl rfl (e_call en48) ?_
  refine (g_any _ _ _ _ _ _ _).mono ?_
  rintro e w' ⟨rfl, rfl⟩
  refine ⟨_, rfl, hS, ?_⟩
  refine OW.val hS rfl rfl rfl (fun _ _ => r_move) ?_
  refine OW.val hS rfl rfl rfl (fun _ _ => r_extract rfl rfl) ?_
  refine OW.val hS rfl rfl rfl (fun _ _ => r_extract rfl rfl) ?_
  refine OW.val hS rfl rfl rfl (fun _ _ => r_extract rfl rfl) ?_
  refine OW.val hS rfl rfl rfl (fun _ _ => r_extract rfl rfl) ?_
  refine OW.val hS rfl rfl rfl (fun _ _ => r_assign) ?_
  refine OW.val hS rfl rfl rfl (fun _ _ => r_assign) ?_
  refine OW.val hS rfl rfl rfl (fun _ _ => r_assign) ?_
  refine OW.val hS rfl rfl rfl (fun _ _ => r_assign) ?_
  clear hS
  refine OW.nil (CW.fresh (rcFr sb so mb mo (gs v7 3 4 9 14 (m 1) (m 6))) ⟨rfl, rfl, rfl, rfl, rfl, rfl, rfl, rfl, rfl, rfl, rfl, rfl, rfl, rfl, rfl, rfl, rfl, rfl, trivial⟩ (φ := fun w' => ∃ q, w' = w.drewN q) ⟨q + 1, rfl⟩ ?_)
  clear q J
  rintro J _ ⟨q, rfl⟩
  obtain ⟨v8, hv8⟩ : ∃ z, z = gs v7 3 4 9 14 (m 1) (m 6) := ⟨_, rfl⟩
  rw [← hv8]
  have hv : v8 = rnd3 v m := by
    subst hv8 hv7 hv6 hv5 hv4 hv3 hv2 hv1
    rfl
  rw [hv]
  exact h J q
set_option maxHeartbeats 4000000 in
set_option maxRecDepth 10000 in
theorem rc_rnd4 (k : Cont) (J : Env) (sb so mb mo q : Nat) (v m : Nat → Int) (w : World) (hm : Rd w mb mo 16 .u32 m) (h : ∀ J q, CW Tryd.prog 1212 (codeTl 44 rcBody) k (tab J (rcFr sb so mb mo (rnd4 v m))) (w.drewN q)) :
    CW Tryd.prog 1212 (codeTl 36 rcBody) k (tab J (rcFr sb so mb mo v)) (w.drewN q) := by
  refine CW.seq (CW.drawn (fun w => Rd w mb mo 16 .u32 m) [(0, true), (1, true), (2, true), (3, true), (4, true), (5, true), (6, true), (7, true), (8, true), (9, true), (10, true), (11, true), (12, false), (13, true), (14, true), (15, true), (16, true), (17, true), (18, true), (19, true), (20, true), (21, true)] mixed (by kernel_rfl) (by kernel_rfl) ?_)
  have hS : Rd (w.drewN q).drew mb mo 16 .u32 m := hm
  refine OW.val hS rfl rfl rfl (fun _ _ => r_move) ?_
  refine OW.val hS rfl rfl rfl (fun _ _ => r_move) ?_
  refine OW.val hS rfl rfl rfl (fun _ _ => r_move) ?_
  refine OW.val hS rfl rfl rfl (fun _ _ => r_move) ?_
  refine OW.val hS rfl rfl rfl (fun _ _ => r_move) ?_
  refine OW.val hS rfl rfl rfl (fun _ _ => r_nil rfl) ?_
  refine OW.val hS rfl rfl rfl (fun _ _ => r_index_arr rfl rfl arr57 (by decide) (by decide)) ?_
  refine OW.val hS rfl rfl rfl (fun _ hS => r_load rfl one43 (hS 12 (by decide))) ?_
  refine OW.val hS rfl rfl rfl (fun _ _ => r_move) ?_
  refine OW.val hS rfl rfl rfl (fun _ _ => r_nil rfl) ?_
  refine OW.val hS rfl rfl rfl (fun _ _ => r_index_arr rfl rfl arr57 (by decide) (by decide)) ?_
  refine OW.val hS rfl rfl rfl (fun _ hS => r_load rfl one43 (hS 13 (by decide))) ?_
  refine OW.call rfl rfl rfl (e_call en48) ?_
  refine (g_any _ _ _ _ _ _ _).mono ?_
  rintro e w' ⟨rfl, rfl⟩
  refine ⟨_, rfl, hS, ?_⟩
  refine OW.val hS rfl rfl rfl (fun _ _ => r_move) ?_
  refine OW.val hS rfl rfl rfl (fun _ _ => r_extract rfl rfl) ?_
  refine OW.val hS rfl rfl rfl (fun _ _ => r_extract rfl rfl) ?_
  refine OW.val hS rfl rfl rfl (fun _ _ => r_extract rfl rfl) ?_
  refine OW.val hS rfl rfl rfl (fun _ _ => r_extract rfl rfl) ?_
  refine OW.val hS rfl rfl rfl (fun _ _ => r_assign) ?_
  refine OW.val hS rfl rfl rfl (fun _ _ => r_assign) ?_
  refine OW.val hS rfl rfl rfl (fun _ _ => r_assign) ?_
  refine OW.val hS rfl rfl rfl (fun _ _ => r_assign) ?_
  clear hS
  refine OW.nil (CW.fresh (rcFr sb so mb mo (gs v 0 4 8 12 (m 12) (m 13))) ⟨rfl, rfl, rfl, rfl, rfl, rfl, rfl, rfl, rfl, rfl, rfl, rfl, rfl, rfl, rfl, rfl, rfl, rfl, trivial⟩ (φ := fun w' => ∃ q, w' = w.drewN q) ⟨q + 1, rfl⟩ ?_)
  clear q J
  rintro J _ ⟨q, rfl⟩
  obtain ⟨v1, hv1⟩ : ∃ z, z = gs v 0 4 8 12 (m 12) (m 13) := ⟨_, rfl⟩
  rw [← hv1]
  refine CW.seq (CW.drawn (fun w => Rd w mb mo 16 .u32 m) [(0, true), (1, true), (2, true), (3, true), (4, true), (5, true), (6, true), (7, true), (8, true), (9, true), (10, true), (11, true), (12, false), (13, true), (14, true), (15, true), (16, true), (17, true), (18, true), (19, true), (20, true), (21, true)] mixed (by kernel_rfl) (by kernel_rfl) ?_)
  have hS : Rd (w.drewN q).drew mb mo 16 .u32 m := hm
  refine OW.val hS rfl rfl rfl (fun _ _ => r_move) ?_
  refine OW.val hS rfl rfl rfl (fun _ _ => r_move) ?_
  refine OW.val hS rfl rfl rfl (fun _ _ => r_move) ?_
  refine OW.val hS rfl rfl rfl (fun _ _ => r_move) ?_
  refine OW.val hS rfl rfl rfl (fun _ _ => r_move) ?_
  refine OW.val hS rfl rfl rfl (fun _ _ => r_nil rfl) ?_
  refine OW.val hS rfl rfl rfl (fun _ _ => r_index_arr rfl rfl arr57 (by decide) (by decide)) ?_
  refine OW.val hS rfl rfl rfl (fun _ hS => r_load rfl one43 (hS 9 (by decide))) ?_
  refine OW.val hS rfl rfl rfl (fun _ _ => r_move) ?_
  refine OW.val hS rfl rfl rfl (fun _ _ => r_nil rfl) ?_
  refine OW.val hS rfl rfl rfl (fun _ _ => r_index_arr rfl rfl arr57 (by decide) (by decide)) ?_
  refine OW.val hS rfl rfl rfl (fun _ hS => r_load rfl one43 (hS 11 (by decide))) ?_
  refine OW.call rfl rfl rfl (e_call en48) ?_
  refine (g_any _ _ _ _ _ _ _).mono ?_
  rintro e w' ⟨rfl, rfl⟩
  refine ⟨_, rfl, hS, ?_⟩
  refine OW.val hS rfl rfl rfl (fun _ _ => r_move) ?_
  refine OW.val hS rfl rfl rfl (fun _ _ => r_extract rfl rfl) ?_
  refine OW.val hS rfl rfl rfl (fun _ _ => r_extract rfl rfl) ?_
  refine OW.val hS rfl rfl rfl (fun _ _ => r_extract rfl rfl) ?_
  refine OW.val hS rfl rfl rfl (fun _ _ => r_extract rfl rfl) ?_
  refine OW.val hS rfl rfl rfl (fun _ _ => r_assign) ?_
  refine OW.val hS rfl rfl rfl (fun _ _ => r_assign) ?_
  refine OW.val hS rfl rfl rfl (fun _ _ => r_assign) ?_
  refine OW.val hS rfl rfl rfl (fun _ _ => r_assign) ?_
  clear hS
  refine OW.nil (CW.fresh (rcFr sb so mb mo (gs v1 1 5 9 13 (m 9) (m 11))) ⟨rfl, rfl, rfl, rfl, rfl, rfl, rfl, rfl, rfl, rfl, rfl, rfl, rfl, rfl, rfl, rfl, rfl, rfl, trivial⟩ (φ := fun w' => ∃ q, w' = w.drewN q) ⟨q + 1, rfl⟩ ?_)
  clear q J
  rintro J _ ⟨q, rfl⟩
  obtain ⟨v2, hv2⟩ : ∃ z, z = gs v1 1 5 9 13 (m 9) (m 11) := ⟨_, rfl⟩
  rw [← hv2]
  refine CW.seq (CW.drawn (fun w => Rd w mb mo 16 .u32 m) [(0, true), (1, true), (2, true), (3, true), (4, true), (5, true), (6, true), (7, true), (8, true), (9, true), (10, true), (11, true), (12, false), (13, true), (14, true), (15, true), (16, true), (17, true), (18, true), (19, true), (20, true), (21, true)] mixed (by kernel_rfl) (by kernel_rfl) ?_)
  have hS : Rd (w.drewN q).drew mb mo 16 .u32 m := hm
  refine OW.val hS rfl rfl rfl (fun _ _ => r_move) ?_
  refine OW.val hS rfl rfl rfl (fun _ _ => r_move) ?_
  refine OW.val hS rfl rfl rfl (fun _ _ => r_move) ?_
  refine OW.val hS rfl rfl rfl (fun _ _ => r_move) ?_
  refine OW.val hS rfl rfl rfl (fun _ _ => r_move) ?_
  refine OW.val hS rfl rfl rfl (fun _ _ => r_nil rfl) ?_
  refine OW.val hS rfl rfl rfl (fun _ _ => r_index_arr rfl rfl arr57 (by decide) (by decide)) ?_
  refine OW.val hS rfl rfl rfl (fun _ hS => r_load rfl one43 (hS 15 (by decide))) ?_
  refine OW.val hS rfl rfl rfl (fun _ _ => r_move) ?_
  refine OW.val hS rfl rfl rfl (fun _ _ => r_nil rfl) ?_
  refine OW.val hS rfl rfl rfl (fun _ _ => r_index_arr rfl rfl arr57 (by decide) (by decide)) ?_
  refine OW.val hS rfl rfl rfl (fun _ hS => r_load rfl one43 (hS 10 (by decide))) ?_
  refine OW.call rfl rfl rfl (e_call en48) ?_
  refine (g_any _ _ _ _ _ _ _).mono ?_
  rintro e w' ⟨rfl, rfl⟩
  refine ⟨_, rfl, hS, ?_⟩
  refine OW.val hS rfl rfl rfl (fun _ _ => r_move) ?_
  refine OW.val hS rfl rfl rfl (fun _ _ => r_extract rfl rfl) ?_
  refine OW.val hS rfl rfl rfl (fun _ _ => r_extract rfl rfl) ?_
  refine OW.val hS rfl rfl rfl (fun _ _ => r_extract rfl rfl) ?_
  refine OW.val hS rfl rfl rfl (fun _ _ => r_extract rfl rfl) ?_
  refine OW.val hS rfl rfl rfl (fun _ _ => r_assign) ?_
  refine OW.val hS rfl rfl rfl (fun _ _ => r_assign) ?_
  refine OW.val hS rfl rfl rfl (fun _ _ => r_assign) ?_
  refine OW.val hS rfl rfl rfl (fun _ _ => r_assign) ?_
  clear hS
  refine OW.nil (CW.fresh (rcFr sb so mb mo (gs v2 2 6 10 14 (m 15) (m 10))) ⟨rfl, rfl, rfl, rfl, rfl, rfl, rfl, rfl, rfl, rfl, rfl, rfl, rfl, rfl, rfl, rfl, rfl, rfl, trivial⟩ (φ := fun w' => ∃ q, w' = w.drewN q) ⟨q + 1, rfl⟩ ?_)
  clear q J
  rintro J _ ⟨q, rfl⟩
  obtain ⟨v3, hv3⟩ : ∃ z, z = gs v2 2 6 10 14 (m 15) (m 10) := ⟨_, rfl⟩
  rw [← hv3]
  refine CW.seq (CW.drawn (fun w => Rd w mb mo 16 .u32 m) [(0, true), (1, true), (2, true), (3, true), (4, true), (5, true), (6, true), (7, true), (8, true), (9, true), (10, true), (11, true), (12, false), (13, true), (14, true), (15, true), (16, true), (17, true), (18, true), (19, true), (20, true), (21, true)] mixed (by kernel_rfl) (by kernel_rfl) ?_)
  have hS : Rd (w.drewN q).drew mb mo 16 .u32 m := hm
  refine OW.val hS rfl rfl rfl (fun _ _ => r_move) ?_
  refine OW.val hS rfl rfl rfl (fun _ _ => r_move) ?_
  refine OW.val hS rfl rfl rfl (fun _ _ => r_move) ?_
  refine OW.val hS rfl rfl rfl (fun _ _ => r_move) ?_
  refine OW.val hS rfl rfl rfl (fun _ _ => r_move) ?_
  refine OW.val hS rfl rfl rfl (fun _ _ => r_nil rfl) ?_
  refine OW.val hS rfl rfl rfl (fun _ _ => r_index_arr rfl rfl arr57 (by decide) (by decide)) ?_
  refine OW.val hS rfl rfl rfl (fun _ hS => r_load rfl one43 (hS 14 (by decide))) ?_
  refine OW.val hS rfl rfl rfl (fun _ _ => r_move) ?_
  refine OW.val hS rfl rfl rfl (fun _ _ => r_nil rfl) ?_
  refine OW.val hS rfl rfl rfl (fun _ _ => r_index_arr rfl rfl arr57 (by decide) (by decide)) ?_
  refine OW.val hS rfl rfl rfl (fun _ hS => r_load rfl one43 (hS 8 (by decide))) ?_
  refine OW.call rfl rfl rfl (e_call en48) ?_
  refine (g_any _ _ _ _ _ _ _).mono ?_
  rintro e w' ⟨rfl, rfl⟩
  refine ⟨_, rfl, hS, ?_⟩
  refine OW.val hS rfl rfl rfl (fun _ _ => r_move) ?_
  refine OW.val hS rfl rfl rfl (fun _ _ => r_extract rfl rfl) ?_
  refine OW.val hS rfl rfl rfl (fun _ _ => r_extract rfl rfl) ?_
  refine OW.val hS rfl rfl rfl (fun _ _ => r_extract rfl rfl) ?_
  refine OW.val hS rfl rfl rfl (fun _ _ => r_extract rfl rfl) ?_
  refine OW.val hS rfl rfl rfl (fun _ _ => r_assign) ?_
  refine OW.val hS rfl rfl rfl (fun _ _ => r_assign) ?_
  refine OW.val hS rfl rfl rfl (fun _ _ => r_assign) ?_
  refine OW.val hS rfl rfl rfl (fun _ _ => r_assign) ?_
  clear hS
  refine OW.nil (CW.fresh (rcFr sb so mb mo (gs v3 3 7 11 15 (m 14) (m 8))) ⟨rfl, rfl, rfl, rfl, rfl, rfl, rfl, rfl, rfl, rfl, rfl, rfl, rfl, rfl, rfl, rfl, rfl, rfl, trivial⟩ (φ := fun w' => ∃ q, w' = w.drewN q) ⟨q + 1, rfl⟩ ?_)
  clear q J
  rintro J _ ⟨q, rfl⟩
  obtain ⟨v4, hv4⟩ : ∃ z, z = gs v3 3 7 11 15 (m 14) (m 8) := ⟨_, rfl⟩
  rw [← hv4]
  refine CW.seq (CW.drawn (fun w => Rd w mb mo 16 .u32 m) [(0, true), (1, true), (2, true), (3, true), (4, true), (5, true), (6, true), (7, true), (8, true), (9, true), (10, true), (11, true), (12, false), (13, true), (14, true), (15, true), (16, true), (17, true), (18, true), (19, true), (20, true), (21, true)] mixed (by kernel_rfl) (by kernel_rfl) ?_)
  have hS : Rd (w.drewN q).drew mb mo 16 .u32 m := hm
  refine OW.val hS rfl rfl rfl (fun _ _ => r_move) ?_
  refine OW.val hS rfl rfl rfl (fun _ _ => r_move) ?_
  refine OW.val hS rfl rfl rfl (fun _ _ => r_move) ?_
  refine OW.val hS rfl rfl rfl (fun _ _ => r_move) ?_
  refine OW.val hS rfl rfl rfl (fun _ _ => r_move) ?_
  refine OW.val hS rfl rfl rfl (fun _ _ => r_nil rfl) ?_
  refine OW.val hS rfl rfl rfl (fun _ _ => r_index_arr rfl rfl arr57 (by decide) (by decide)) ?_
  refine OW.val hS rfl rfl rfl (fun _ hS => r_load rfl one43 (hS 7 (by decide))) ?_
  refine OW.val hS rfl rfl rfl (fun _ _ => r_move) ?_
  refine OW.val hS rfl rfl rfl (fun _ _ => r_nil rfl) ?_
  refine OW.val hS rfl rfl rfl (fun _ _ => r_index_arr rfl rfl arr57 (by decide) (by decide)) ?_
  refine OW.val hS rfl rfl rfl (fun _ hS => r_load rfl one43 (hS 2 (by decide))) ?_
  refine OW.call rfl rfl rfl (e_call en48) ?_
  refine (g_any _ _ _ _ _ _ _).mono ?_
  rintro e w' ⟨rfl, rfl⟩
  refine ⟨_, rfl, hS, ?_⟩
  refine OW.val hS rfl rfl rfl (fun _ _ => r_move) ?_
  refine OW.val hS rfl rfl rfl (fun _ _ => r_extract rfl rfl) ?_
  refine OW.val hS rfl rfl rfl (fun _ _ => r_extract rfl rfl) ?_
  refine OW.val hS rfl rfl rfl (fun _ _ => r_extract rfl rfl) ?_
  refine OW.val hS rfl rfl rfl (fun _ _ => r_extract rfl rfl) ?_
  refine OW.val hS rfl rfl rfl (fun _ _ => r_assign) ?_
  refine OW.val hS rfl rfl rfl (fun _ _ => r_assign) ?_
  refine OW.val hS rfl rfl rfl (fun _ _ => r_assign) ?_
  refine OW.val hS rfl rfl rfl (fun _ _ => r_assign) ?_
  clear hS
  refine OW.nil (CW.fresh (rcFr sb so mb mo (gs v4 0 5 10 15 (m 7) (m 2))) ⟨rfl, rfl, rfl, rfl, rfl, rfl, rfl, rfl, rfl, rfl, rfl, rfl, rfl, rfl, rfl, rfl, rfl, rfl, trivial⟩ (φ := fun w' => ∃ q, w' = w.drewN q) ⟨q + 1, rfl⟩ ?_)
  clear q J
  rintro J _ ⟨q, rfl⟩
  obtain ⟨v5, hv5⟩ : ∃ z, z = gs v4 0 5 10 15 (m 7) (m 2) := ⟨_, rfl⟩
  rw [← hv5]
  refine CW.seq (CW.drawn (fun w => Rd w mb mo 16 .u32 m) [(0, true), (1, true), (2, true), (3, true), (4, true), (5, true), (6, true), (7, true), (8, true), (9, true), (10, true), (11, true), (12, false), (13, true), (14, true), (15, true), (16, true), (17, true), (18, true), (19, true), (20, true), (21, true)] mixed (by kernel_rfl) (by kernel_rfl) ?_)
  have hS : Rd (w.drewN q).drew mb mo 16 .u32 m := hm
  refine OW.val hS rfl rfl rfl (fun _ _ => r_move) ?_
  refine OW.val hS rfl rfl rfl (fun _ _ => r_move) ?_
  refine OW.val hS rfl rfl rfl (fun _ _ => r_move) ?_
  refine OW.val hS rfl rfl rfl (fun _ _ => r_move) ?_
  refine OW.val hS rfl rfl rfl (fun _ _ => r_move) ?_
  refine OW.val hS rfl rfl rfl (fun _ _ => r_nil rfl) ?_
  refine OW.val hS rfl rfl rfl (fun _ _ => r_index_arr rfl rfl arr57 (by decide) (by decide)) ?_
  refine OW.val hS rfl rfl rfl (fun _ hS => r_load rfl one43 (hS 5 (by decide))) ?_
  refine OW.val hS rfl rfl rfl (fun _ _ => r_move) ?_
  refine OW.val hS rfl rfl rfl (fun _ _ => r_nil rfl) ?_
  refine OW.val hS rfl rfl rfl (fun _ _ => r_index_arr rfl rfl arr57 (by decide) (by decide)) ?_
  refine OW.val hS rfl rfl rfl (fun _ hS => r_load rfl one43 (hS 3 (by decide))) ?_
  refine OW.call rfl rfl rfl (e_call en48) ?_
  refine (g_any _ _ _ _ _ _ _).mono ?_
  rintro e w' ⟨rfl, rfl⟩
  refine ⟨_, rfl, hS, ?_⟩
  refine OW.val hS rfl rfl rfl (fun _ _ => r_move) ?_
  refine OW.val hS rfl rfl rfl (fun _ _ => r_extract rfl rfl) ?_
  refine OW.val hS rfl rfl rfl (fun _ _ => r_extract rfl rfl) ?_
  refine OW.val hS rfl rfl rfl (fun _ _ => r_extract rfl rfl) ?_
  refine OW.val hS rfl rfl rfl (fun _ _ => r_extract rfl rfl) ?_
  refine OW.val hS rfl rfl rfl (fun _ _ => r_assign) ?_
  refine OW.val hS rfl rfl rfl (fun _ _ => r_assign) ?_
  refine OW.val hS rfl rfl rfl (fun _ _ => r_assign) ?_
  refine OW.val hS rfl rfl rfl (fun _ _ => r_assign) ?_
  clear hS
  refine OW.nil (CW.fresh (rcFr sb so mb mo (gs v5 1 6 11 12 (m 5) (m 3))) ⟨rfl, rfl, rfl, rfl, rfl, rfl, rfl, rfl, rfl, rfl, rfl, rfl, rfl, rfl, rfl, rfl, rfl, rfl, trivial⟩ (φ := fun w' => ∃ q, w' = w.drewN q) ⟨q + 1, rfl⟩ ?_)
  clear q J
  rintro J _ ⟨q, rfl⟩
  obtain ⟨v6, hv6⟩ : ∃ z, z = gs v5 1 6 11 12 (m 5) (m 3) := ⟨_, rfl⟩
  rw [← hv6]
  refine CW.seq (CW.drawn (fun w => Rd w mb mo 16 .u32 m) [(0, true), (1, true), (2, true), (3, true), (4, true), (5, true), (6, true), (7, true), (8, true), (9, true), (10, true), (11, true), (12, false), (13, true), (14, true), (15, true), (16, true), (17, true), (18, true), (19, true), (20, true), (21, true)] mixed (by kernel_rfl) (by kernel_rfl) ?_)
  have hS : Rd (w.drewN q).drew mb mo 16 .u32 m := hm
  refine OW.val hS rfl rfl rfl (fun _ _ => r_move) ?_
  refine OW.val hS rfl rfl rfl (fun _ _ => r_move) ?_
  refine OW.val hS rfl rfl rfl (fun _ _ => r_move) ?_
  refine OW.val hS rfl rfl rfl (fun _ _ => r_move) ?_
  refine OW.val hS rfl rfl rfl (fun _ _ => r_move) ?_
  refine OW.val hS rfl rfl rfl (fun _ _ => r_nil rfl) ?_
  refine OW.val hS rfl rfl rfl (fun _ _ => r_index_arr rfl rfl arr57 (by decide) (by decide)) ?_
  refine OW.val hS rfl rfl rfl (fun _ hS => r_load rfl one43 (hS 0 (by decide))) ?_
  refine OW.val hS rfl rfl rfl (fun _ _ => r_move) ?_
  refine OW.val hS rfl rfl rfl (fun _ _ => r_nil rfl) ?_
  refine OW.val hS rfl rfl rfl (fun _ _ => r_index_arr rfl rfl arr57 (by decide) (by decide)) ?_
  refine OW.val hS rfl rfl rfl (fun _ hS => r_load rfl one43 (hS 1 (by decide))) ?_
  refine OW.call rfl rfl rfl (e_call en48) ?_
  refine (g_any _ _ _ _ _ _ _).mono ?_
  rintro e w' ⟨rfl, rfl⟩
  refine ⟨_, rfl, hS, ?_⟩
  refine OW.val hS rfl rfl rfl (fun _ _ => r_move) ?_
  refine OW.val hS rfl rfl rfl (fun _ _ => r_extract rfl rfl) ?_
  refine OW.val hS rfl rfl rfl (fun _ _ => r_extract rfl rfl) ?_
  refine OW.val hS rfl rfl rfl (fun _ _ => r_extract rfl rfl) ?_
  refine OW.val hS rfl rfl rfl (fun _ _ => r_extract rfl rfl) ?_
  refine OW.val hS rfl rfl rfl (fun _ _ => r_assign) ?_
  refine OW.val hS rfl rfl rfl (fun _ _ => r_assign) ?_
  refine OW.val hS rfl rfl rfl (fun _ _ => r_assign) ?_
  refine OW.val hS rfl rfl rfl (fun _ _ => r_assign) ?_
  clear hS
  refine OW.nil (CW.fresh (rcFr sb so mb mo (gs v6 2 7 8 13 (m 0) (m 1))) ⟨rfl, rfl, rfl, rfl, rfl, rfl, rfl, rfl, rfl, rfl, rfl, rfl, rfl, rfl, rfl, rfl, rfl, rfl, trivial⟩ (φ := fun w' => ∃ q, w' = w.drewN q) ⟨q + 1, rfl⟩ ?_)
  clear q J
  rintro J _ ⟨q, rfl⟩
  obtain ⟨v7, hv7⟩ : ∃ z, z = gs v6 2 7 8 13 (m 0) (m 1) := ⟨_, rfl⟩
  rw [← hv7]
  refine CW.seq (CW.drawn (fun w => Rd w mb mo 16 .u32 m) [(0, true), (1, true), (2, true), (3, true), (4, true), (5, true), (6, true), (7, true), (8, true), (9, true), (10, true), (11, true), (12, false), (13, true), (14, true), (15, true), (16, true), (17, true), (18, true), (19, true), (20, true), (21, true)] mixed (by kernel_rfl) (by kernel_rfl) ?_)
  have hS : Rd (w.drewN q).drew mb mo 16 .u32 m := hm
  refine OW.val hS rfl rfl rfl (fun _ _ => r_move) ?_
  refine OW.val hS rfl rfl rfl (fun _ _ => r_move) ?_
  refine OW.val hS rfl rfl rfl (fun _ _ => r_move) ?_
  refine OW.val hS rfl rfl rfl (fun _ _ => r_move) ?_
  refine OW.val hS rfl rfl rfl (fun _ _ => r_move) ?_
  refine OW.val hS rfl rfl rfl (fun _ _ => r_nil rfl) ?_
  refine OW.val hS rfl rfl rfl (fun _ _ => r_index_arr rfl rfl arr57 (by decide) (by decide)) ?_
  refine OW.val hS rfl rfl rfl (fun _ hS => r_load rfl one43 (hS 6 (by decide))) ?_
  refine OW.val hS rfl rfl rfl (fun _ _ => r_move) ?_
  refine OW.val hS rfl rfl rfl (fun _ _ => r_nil rfl) ?_
  refine OW.val hS rfl rfl rfl (fun _ _ => r_index_arr rfl rfl arr57 (by decide) (by decide)) ?_
  refine OW.val hS rfl rfl rfl (fun _ hS => r_load rfl one43 (hS 4 (by decide))) ?_
  refine OW.call rfl rfl rfl (e_call en48) ?_
  refine (g_any _ _ _ _ _ _ _).mono ?_
  rintro e w' ⟨rfl, rfl⟩
  refine ⟨_, rfl, hS, ?_⟩
  refine OW.val hS rfl rfl rfl (fun _ _ => r_move) ?_
  refine OW.val hS rfl rfl rfl (fun _ _ => r_extract rfl rfl) ?_
  refine OW.val hS rfl rfl rfl (fun _ _ => r_extract rfl rfl) ?_
  refine OW.val hS rfl rfl rfl (fun _ _ => r_extract rfl rfl) ?_
  refine OW.val hS rfl rfl rfl (fun _ _ => r_extract rfl rfl) ?_
  refine OW.val hS rfl rfl rfl (fun _ _ => r_assign) ?_
  refine OW.val hS rfl rfl rfl (fun _ _ => r_assign) ?_
  refine OW.val hS rfl rfl rfl (fun _ _ => r_assign) ?_
  refine OW.val hS rfl rfl rfl (fun _ _ => r_assign) ?_
  clear hS
  refine OW.nil (CW.fresh (rcFr sb so mb mo (gs v7 3 4 9 14 (m 6) (m 4))) ⟨rfl, rfl, rfl, rfl, rfl, rfl, rfl, rfl, rfl, rfl, rfl, rfl, rfl, rfl, rfl, rfl, rfl, rfl, trivial⟩ (φ := fun w' => ∃ q, w' = w.drewN q) ⟨q + 1, rfl⟩ ?_)
  clear q J
  rintro J _ ⟨q, rfl⟩
  obtain ⟨v8, hv8⟩ : ∃ z, z = gs v7 3 4 9 14 (m 6) (m 4) := ⟨_, rfl⟩
  rw [← hv8]
  have hv : v8 = rnd4 v m := by
    subst hv8 hv7 hv6 hv5 hv4 hv3 hv2 hv1
    rfl
  rw [hv]
  exact h J q
set_option maxHeartbeats 4000000 in
set_option maxRecDepth 10000 in
theorem rc_rnd5 (k : Cont) (J : Env) (sb so mb mo q : Nat) (v m : Nat → Int) (w : World) (hm : Rd w mb mo 16 .u32 m) (h : ∀ J q, CW Tryd.prog 1212 (codeTl 52 rcBody) k (tab J (rcFr sb so mb mo (rnd5 v m))) (w.drewN q)) :
    CW Tryd.prog 1212 (codeTl 44 rcBody) k (tab J (rcFr sb so mb mo v)) (w.drewN q) := by
  refine CW.seq (CW.drawn (fun w => Rd w mb mo 16 .u32 m) [(0, true), (1, true), (2, true), (3, true), (4, true), (5, true), (6, true), (7, true), (8, true), (9, true), (10, true), (11, true), (12, false), (13, true), (14, true), (15, true), (16, true), (17, true), (18, true), (19, true), (20, true), (21, true)] mixed (by kernel_rfl) (by kernel_rfl) ?_)
  have hS : Rd (w.drewN q).drew mb mo 16 .u32 m := hm
  refine OW.val hS rfl rfl rfl (fun _ _ => r_move) ?_
  refine OW.val hS rfl rfl rfl (fun _ _ => r_move) ?_
  refine OW.val hS rfl rfl rfl (fun _ _ => r_move) ?_
  refine OW.val hS rfl rfl rfl (fun _ _ => r_move) ?_
  refine OW.val hS rfl rfl rfl (fun _ _ => r_move) ?_
  refine OW.val hS rfl rfl rfl (fun _ _ => r_nil rfl) ?_
  refine OW.val hS rfl rfl rfl (fun _ _ => r_index_arr rfl rfl arr57 (by decide) (by decide)) ?_
  refine OW.val hS rfl rfl rfl (fun _ hS => r_load rfl one43 (hS 9 (by decide))) ?_
  refine OW.val hS rfl rfl rfl (fun _ _ => r_move) ?_
  refine OW.val hS rfl rfl rfl (fun _ _ => r_nil rfl) ?_
  refine OW.val hS rfl rfl rfl (fun _ _ => r_index_arr rfl rfl arr57 (by decide) (by decide)) ?_
  refine OW.val hS rfl rfl rfl (fun _ hS => r_load rfl one43 (hS 14 (by decide))) ?_
  refine OW.call rfl rfl rfl (e_call en48) ?_
  refine (g_any _ _ _ _ _ _ _).mono ?_
  rintro e w' ⟨rfl, rfl⟩
  refine ⟨_, rfl, hS, ?_⟩
  refine OW.val hS rfl rfl rfl (fun _ _ => r_move) ?_
  refine OW.val hS rfl rfl rfl (fun _ _ => r_extract rfl rfl) ?_
  refine OW.val hS rfl rfl rfl (fun _ _ => r_extract rfl rfl) ?_
  refine OW.val hS rfl rfl rfl (fun _ _ => r_extract rfl rfl) ?_
  refine OW.val hS rfl rfl rfl (fun _ _ => r_extract rfl rfl) ?_
  refine OW.val hS rfl rfl rfl (fun _ _ => r_assign) ?_
  refine OW.val hS rfl rfl rfl (fun _ _ => r_assign) ?_
  refine OW.val hS rfl rfl rfl (fun _ _ => r_assign) ?_
  refine OW.val hS rfl rfl rfl (fun _ _ => r_assign) ?_
  clear hS
  refine OW.nil (CW.fresh (rcFr sb so mb mo (gs v 0 4 8 12 (m 9) (m 14))) ⟨rfl, rfl, rfl, rfl, rfl, rfl, rfl, rfl, rfl, rfl, rfl, rfl, rfl, rfl, rfl, rfl, rfl, rfl, trivial⟩ (φ := fun w' => ∃ q, w' = w.drewN q) ⟨q + 1, rfl⟩ ?_)
  clear q J
  rintro J _ ⟨q, rfl⟩
  obtain ⟨v1, hv1⟩ : ∃ z, z = gs v 0 4 8 12 (m 9) (m 14) := ⟨_, rfl⟩
  rw [← hv1]
  refine CW.seq (CW.drawn (fun w => Rd w mb mo 16 .u32 m) [(0, true), (1, true), (2, true), (3, true), (4, true), (5, true), (6, true), (7, true), (8, true), (9, true), (10, true), (11, true), (12, false), (13, true), (14, true), (15, true), (16, true), (17, true), (18, true), (19, true), (20, true), (21, true)] mixed (by kernel_rfl) (by kernel_rfl) ?_)
  have hS : Rd (w.drewN q).drew mb mo 16 .u32 m := hm
  refine OW.val hS rfl rfl rfl (fun _ _ => r_move) ?_
  refine OW.val hS rfl rfl rfl (fun _ _ => r_move) ?_
  refine OW.val hS rfl rfl rfl (fun _ _ => r_move) ?_
  refine OW.val hS rfl rfl rfl (fun _ _ => r_move) ?_
  refine OW.val hS rfl rfl rfl (fun _ _ => r_move) ?_
  refine OW.val hS rfl rfl rfl (fun _ _ => r_nil rfl) ?_
  refine OW.val hS rfl rfl rfl (fun _ _ => r_index_arr rfl rfl arr57 (by decide) (by decide)) ?_
  refine OW.val hS rfl rfl rfl (fun _ hS => r_load rfl one43 (hS 11 (by decide))) ?_
  refine OW.val hS rfl rfl rfl (fun _ _ => r_move) ?_
  refine OW.val hS rfl rfl rfl (fun _ _ => r_nil rfl) ?_
  refine OW.val hS rfl rfl rfl (fun _ _ => r_index_arr rfl rfl arr57 (by decide) (by decide)) ?_
  refine OW.val hS rfl rfl rfl (fun _ hS => r_load rfl one43 (hS 5 (by decide))) ?_
  refine OW.call rfl rfl rfl (e_call en48) ?_
  refine (g_any _ _ _ _ _ _ _).mono ?_
  rintro e w' ⟨rfl, rfl⟩
  refine ⟨_, rfl, hS, ?_⟩
  refine OW.val hS rfl rfl rfl (fun _ _ => r_move) ?_
  refine OW.val hS rfl rfl rfl (fun _ _ => r_extract rfl rfl) ?_
  refine OW.val hS rfl rfl rfl (fun _ _ => r_extract rfl rfl) ?_
  refine OW.val hS rfl rfl rfl (fun _ _ => r_extract rfl rfl) ?_
  refine OW.val hS rfl rfl rfl (fun _ _ => r_extract rfl rfl) ?_
  refine OW.val hS rfl rfl rfl (fun _ _ => r_assign) ?_
  refine OW.val hS rfl rfl rfl (fun _ _ => r_assign) ?_
  refine OW.val hS rfl rfl rfl (fun _ _ => r_assign) ?_
  refine OW.val hS rfl rfl rfl (fun _ _ => r_assign) ?_
  clear hS
  refine OW.nil (CW.fresh (rcFr sb so mb mo (gs v1 1 5 9 13 (m 11) (m 5))) ⟨rfl, rfl, rfl, rfl, rfl, rfl, rfl, rfl, rfl, rfl, rfl, rfl, rfl, rfl, rfl, rfl, rfl, rfl, trivial⟩ (φ := fun w' => ∃ q, w' = w.drewN q) ⟨q + 1, rfl⟩ ?_)
  clear q J
  rintro J _ ⟨q, rfl⟩
  obtain ⟨v2, hv2⟩ : ∃ z, z = gs v1 1 5 9 13 (m 11) (m 5) := ⟨_, rfl⟩
  rw [← hv2]
  refine CW.seq (CW.drawn (fun w => Rd w mb mo 16 .u32 m) [(0, true), (1, true), (2, true), (3, true), (4, true), (5, true), (6, true), (7, true), (8, true), (9, true), (10, true), (11, true), (12, false), (13, true), (14, true), (15, true), (16, true), (17, true), (18, true), (19, true), (20, true), (21, true)] mixed (by kernel_rfl) (by kernel_rfl) ?_)
  have hS : Rd (w.drewN q).drew mb mo 16 .u32 m := hm
  refine OW.val hS rfl rfl rfl (fun _ _ => r_move) ?_
  refine OW.val hS rfl rfl rfl (fun _ _ => r_move) ?_
  refine OW.val hS rfl rfl rfl (fun _ _ => r_move) ?_
  refine OW.val hS rfl rfl rfl (fun _ _ => r_move) ?_
  refine OW.val hS rfl rfl rfl (fun _ _ => r_move) ?_
  refine OW.val hS rfl rfl rfl (fun _ _ => r_nil rfl) ?_
  refine OW.val hS rfl rfl rfl (fun _ _ => r_index_arr rfl rfl arr57 (by decide) (by decide)) ?_
  refine OW.val hS rfl rfl rfl (fun _ hS => r_load rfl one43 (hS 8 (by decide))) ?_
  refine OW.val hS rfl rfl rfl (fun _ _ => r_move) ?_
  refine OW.val hS rfl rfl rfl (fun _ _ => r_nil rfl) ?_
  refine OW.val hS rfl rfl rfl (fun _ _ => r_index_arr rfl rfl arr57 (by decide) (by decide)) ?_
  refine OW.val hS rfl rfl rfl (fun _ hS => r_load rfl one43 (hS 12 (by decide))) ?_
  refine OW.call rfl rfl rfl (e_call en48) ?_
  refine (g_any _ _ _ _ _ _ _).mono ?_
  rintro e w' ⟨rfl, rfl⟩
  refine ⟨_, rfl, hS, ?_⟩
  refine OW.val hS rfl rfl rfl (fun _ _ => r_move) ?_
  refine OW.val hS rfl rfl rfl (fun _ _ => r_extract rfl rfl) ?_
  refine OW.val hS rfl rfl rfl (fun _ _ => r_extract rfl rfl) ?_
  refine OW.val hS rfl rfl rfl (fun _ _ => r_extract rfl rfl) ?_
  refine OW.val hS rfl rfl rfl (fun _ _ => r_extract rfl rfl) ?_
  refine OW.val hS rfl rfl rfl (fun _ _ => r_assign) ?_
  refine OW.val hS rfl rfl rfl (fun _ _ => r_assign) ?_
  refine OW.val hS rfl rfl rfl (fun _ _ => r_assign) ?_
  refine OW.val hS rfl rfl rfl (fun _ _ => r_assign) ?_
  clear hS
  refine OW.nil (CW.fresh (rcFr sb so mb mo (gs v2 2 6 10 14 (m 8) (m 12))) ⟨rfl, rfl, rfl, rfl, rfl, rfl, rfl, rfl, rfl, rfl, rfl, rfl, rfl, rfl, rfl, rfl, rfl, rfl, trivial⟩ (φ := fun w' => ∃ q, w' = w.drewN q) ⟨q + 1, rfl⟩ ?_)
  clear q J
  rintro J _ ⟨q, rfl⟩
  obtain ⟨v3, hv3⟩ : ∃ z, z = gs v2 2 6 10 14 (m 8) (m 12) := ⟨_, rfl⟩
  rw [← hv3]
  refine CW.seq (CW.drawn (fun w => Rd w mb mo 16 .u32 m) [(0, true), (1, true), (2, true), (3, true), (4, true), (5, true), (6, true), (7, true), (8, true), (9, true), (10, true), (11, true), (12, false), (13, true), (14, true), (15, true), (16, true), (17, true), (18, true), (19, true), (20, true), (21, true)] mixed (by kernel_rfl) (by kernel_rfl) ?_)
  have hS : Rd (w.drewN q).drew mb mo 16 .u32 m := hm
  refine OW.val hS rfl rfl rfl (fun _ _ => r_move) ?_
  refine OW.val hS rfl rfl rfl (fun _ _ => r_move) ?_
  refine OW.val hS rfl rfl rfl (fun _ _ => r_move) ?_
  refine OW.val hS rfl rfl rfl (fun _ _ => r_move) ?_
  refine OW.val hS rfl rfl rfl (fun _ _ => r_move) ?_
  refine OW.val hS rfl rfl rfl (fun _ _ => r_nil rfl) ?_
  refine OW.val hS rfl rfl rfl (fun _ _ => r_index_arr rfl rfl arr57 (by decide) (by decide)) ?_
  refine OW.val hS rfl rfl rfl (fun _ hS => r_load rfl one43 (hS 15 (by decide))) ?_
  refine OW.val hS rfl rfl rfl (fun _ _ => r_move) ?_
  refine OW.val hS rfl rfl rfl (fun _ _ => r_nil rfl) ?_
  refine OW.val hS rfl rfl rfl (fun _ _ => r_index_arr rfl rfl arr57 (by decide) (by decide)) ?_
  refine OW.val hS rfl rfl rfl (fun _ hS => r_load rfl one43 (hS 1 (by decide))) ?_
  refine OW.call rfl rfl rfl (e_call en48) ?_
  refine (g_any _ _ _ _ _ _ _).mono ?_
  rintro e w' ⟨rfl, rfl⟩
  refine ⟨_, rfl, hS, ?_⟩
  refine OW.val hS rfl rfl rfl (fun _ _ => r_move) ?_
  refine OW.val hS rfl rfl rfl (fun _ _ => r_extract rfl rfl) ?_
  refine OW.val hS rfl rfl rfl (fun _ _ => r_extract rfl rfl) ?_
  refine OW.val hS rfl rfl rfl (fun _ _ => r_extract rfl rfl) ?_
  refine OW.val hS rfl rfl rfl (fun _ _ => r_extract rfl rfl) ?_
  refine OW.val hS rfl rfl rfl (fun _ _ => r_assign) ?_
  refine OW.val hS rfl rfl rfl (fun _ _ => r_assign) ?_
  refine OW.val hS rfl rfl rfl (fun _ _ => r_assign) ?_
  refine OW.val hS rfl rfl rfl (fun _ _ => r_assign) ?_
  clear hS
  refine OW.nil (CW.fresh (rcFr sb so mb mo (gs v3 3 7 11 15 (m 15) (m 1))) ⟨rfl, rfl, rfl, rfl, rfl, rfl, rfl, rfl, rfl, rfl, rfl, rfl, rfl, rfl, rfl, rfl, rfl, rfl, trivial⟩ (φ := fun w' => ∃ q, w' = w.drewN q) ⟨q + 1, rfl⟩ ?_)
  clear q J
  rintro J _ ⟨q, rfl⟩
  obtain ⟨v4, hv4⟩ : ∃ z, z = gs v3 3 7 11 15 (m 15) (m 1) := ⟨_, rfl⟩
  rw [← hv4]
  refine CW.seq (CW.drawn (fun w => Rd w mb mo 16 .u32 m) [(0, true), (1, true), (2, true), (3, true), (4, true), (5, true), (6, true), (7, true), (8, true), (9, true), (10, true), (11, true), (12, false), (13, true), (14, true), (15, true), (16, true), (17, true), (18, true), (19, true), (20, true), (21, true)] mixed (by kernel_rfl) (by kernel_rfl) ?_)
  have hS : Rd (w.drewN q).drew mb mo 16 .u32 m := hm
  refine OW.val hS rfl rfl rfl (fun _ _ => r_move) ?_
  refine OW.val hS rfl rfl rfl (fun _ _ => r_move) ?_
  refine OW.val hS rfl rfl rfl (fun _ _ => r_move) ?_
  refine OW.val hS rfl rfl rfl (fun _ _ => r_move) ?_
  refine OW.val hS rfl rfl rfl (fun _ _ => r_move) ?_
  refine OW.val hS rfl rfl rfl (fun _ _ => r_nil rfl) ?_
  refine OW.val hS rfl rfl rfl (fun _ _ => r_index_arr rfl rfl arr57 (by decide) (by decide)) ?_
  refine OW.val hS rfl rfl rfl (fun _ hS => r_load rfl one43 (hS 13 (by decide))) ?_
  refine OW.val hS rfl rfl rfl (fun _ _ => r_move) ?_
  refine OW.val hS rfl rfl rfl (fun _ _ => r_nil rfl) ?_
  refine OW.val hS rfl rfl rfl (fun _ _ => r_index_arr rfl rfl arr57 (by decide) (by decide)) ?_
  refine OW.val hS rfl rfl rfl (fun _ hS => r_load rfl one43 (hS 3 (by decide))) ?_
  refine OW.call rfl rfl rfl (e_call en48) ?_
  refine (g_any _ _ _ _ _ _ _).mono ?_
  rintro e w' ⟨rfl, rfl⟩
  refine ⟨_, rfl, hS, ?_⟩
  refine OW.val hS rfl rfl rfl (fun _ _ => r_move) ?_
  refine OW.val hS rfl rfl rfl (fun _ _ => r_extract rfl rfl) ?_
  refine OW.val hS rfl rfl rfl (fun _ _ => r_extract rfl rfl) ?_
  refine OW.val hS rfl rfl rfl (fun _ _ => r_extract rfl rfl) ?_
  refine OW.val hS rfl rfl rfl (fun _ _ => r_extract rfl rfl) ?_
  refine OW.val hS rfl rfl rfl (fun _ _ => r_assign) ?_
  refine OW.val hS rfl rfl rfl (fun _ _ => r_assign) ?_
  refine OW.val hS rfl rfl rfl (fun _ _ => r_assign) ?_
  refine OW.val hS rfl rfl rfl (fun _ _ => r_assign) ?_
  clear hS
  refine OW.nil (CW.fresh (rcFr sb so mb mo (gs v4 0 5 10 15 (m 13) (m 3))) ⟨rfl, rfl, rfl, rfl, rfl, rfl, rfl, rfl, rfl, rfl, rfl, rfl, rfl, rfl, rfl, rfl, rfl, rfl, trivial⟩ (φ := fun w' => ∃ q, w' = w.drewN q) ⟨q + 1, rfl⟩ ?_)
  clear q J
  rintro J _ ⟨q, rfl⟩
  obtain ⟨v5, hv5⟩ : ∃ z, z = gs v4 0 5 10 15 (m 13) (m 3) := ⟨_, rfl⟩
  rw [← hv5]
  refine CW.seq (CW.drawn (fun w => Rd w mb mo 16 .u32 m) [(0, true), (1, true), (2, true), (3, true), (4, true), (5, true), (6, true), (7, true), (8, true), (9, true), (10, true), (11, true), (12, false), (13, true), (14, true), (15, true), (16, true), (17, true), (18, true), (19, true), (20, true), (21, true)] mixed (by kernel_rfl) (by kernel_rfl) ?_)
  have hS : Rd (w.drewN q).drew mb mo 16 .u32 m := hm
  refine OW.val hS rfl rfl rfl (fun _ _ => r_move) ?_
  refine OW.val hS rfl rfl rfl (fun _ _ => r_move) ?_
  refine OW.val hS rfl rfl rfl (fun _ _ => r_move) ?_
  refine OW.val hS rfl rfl rfl (fun _ _ => r_move) ?_
  refine OW.val hS rfl rfl rfl (fun _ _ => r_move) ?_
  refine OW.val hS rfl rfl rfl (fun _ _ => r_nil rfl) ?_
  refine OW.val hS rfl rfl rfl (fun _ _ => r_index_arr rfl rfl arr57 (by decide) (by decide)) ?_
  refine OW.val hS rfl rfl rfl (fun _ hS => r_load rfl one43 (hS 0 (by decide))) ?_
  refine OW.val hS rfl rfl rfl (fun _ _ => r_move) ?_
  refine OW.val hS rfl rfl rfl (fun _ _ => r_nil rfl) ?_
  refine OW.val hS rfl rfl rfl (fun _ _ => r_index_arr rfl rfl arr57 (by decide) (by decide)) ?_
  refine OW.val hS rfl rfl rfl (fun _ hS => r_load rfl one43 (hS 10 (by decide))) ?_
  refine OW.call rfl rfl rfl (e_call en48) ?_
  refine (g_any _ _ _ _ _ _ _).mono ?_
  rintro e w' ⟨rfl, rfl⟩
  refine ⟨_, rfl, hS, ?_⟩
  refine OW.val hS rfl rfl rfl (fun _ _ => r_move) ?_
  refine OW.val hS rfl rfl rfl (fun _ _ => r_extract rfl rfl) ?_
  refine OW.val hS rfl rfl rfl (fun _ _ => r_extract rfl rfl) ?_
  refine OW.val hS rfl rfl rfl (fun _ _ => r_extract rfl rfl) ?_
  refine OW.val hS rfl rfl rfl (fun _ _ => r_extract rfl rfl) ?_
  refine OW.val hS rfl rfl rfl (fun _ _ => r_assign) ?_
  refine OW.val hS rfl rfl rfl (fun _ _ => r_assign) ?_
  refine OW.val hS rfl rfl rfl (fun _ _ => r_assign) ?_
  refine OW.val hS rfl rfl rfl (fun _ _ => r_assign) ?_
  clear hS
  refine OW.nil (CW.fresh (rcFr sb so mb mo (gs v5 1 6 11 12 (m 0) (m 10))) ⟨rfl, rfl, rfl, rfl, rfl, rfl, rfl, rfl, rfl, rfl, rfl, rfl, rfl, rfl, rfl, rfl, rfl, rfl, trivial⟩ (φ := fun w' => ∃ q, w' = w.drewN q) ⟨q + 1, rfl⟩ ?_)
  clear q J
  rintro J _ ⟨q, rfl⟩
  obtain ⟨v6, hv6⟩ : ∃ z, z = gs v5 1 6 11 12 (m 0) (m 10) := ⟨_, rfl⟩
  rw [← hv6]
  refine CW.seq (CW.drawn (fun w => Rd w mb mo 16 .u32 m) [(0, true), (1, true), (2, true), (3, true), (4, true), (5, true), (6, true), (7, true), (8, true), (9, true), (10, true), (11, true), (12, false), (13, true), (14, true), (15, true), (16, true), (17, true), (18, true), (19, true), (20, true), (21, true)] mixed (by kernel_rfl) (by kernel_rfl) ?_)
  have hS : Rd (w.drewN q).drew mb mo 16 .u32 m := hm
  refine OW.val hS rfl rfl rfl (fun _ _ => r_move) ?_
  refine OW.val hS rfl rfl rfl (fun _ _ => r_move) ?_
  refine OW.val hS rfl rfl rfl (fun _ _ => r_move) ?_
  refine OW.val hS rfl rfl rfl (fun _ _ => r_move) ?_
  refine OW.val hS rfl rfl rfl (fun _ _ => r_move) ?_
  refine OW.val hS rfl rfl rfl (fun _ _ => r_nil rfl) ?_
  refine OW.val hS rfl rfl rfl (fun _ _ => r_index_arr rfl rfl arr57 (by decide) (by decide)) ?_
  refine OW.val hS rfl rfl rfl (fun _ hS => r_load rfl one43 (hS 2 (by decide))) ?_
  refine OW.val hS rfl rfl rfl (fun _ _ => r_move) ?_
  refine OW.val hS rfl rfl rfl (fun _ _ => r_nil rfl) ?_
  refine OW.val hS rfl rfl rfl (fun _ _ => r_index_arr rfl rfl arr57 (by decide) (by decide)) ?_
  refine OW.val hS rfl rfl rfl (fun _ hS => r_load rfl one43 (hS 6 (by decide))) ?_
  refine OW.call rfl rfl rfl (e_call en48) ?_
  refine (g_any _ _ _ _ _ _ _).mono ?_
  rintro e w' ⟨rfl, rfl⟩
  refine ⟨_, rfl, hS, ?_⟩
  refine OW.val hS rfl rfl rfl (fun _ _ => r_move) ?_
  refine OW.val hS rfl rfl rfl (fun _ _ => r_extract rfl rfl) ?_
  refine OW.val hS rfl rfl rfl (fun _ _ => r_extract rfl rfl) ?_
  refine OW.val hS rfl rfl rfl (fun _ _ => r_extract rfl rfl) ?_
  refine OW.val hS rfl rfl rfl (fun _ _ => r_extract rfl rfl) ?_
  refine OW.val hS rfl rfl rfl (fun _ _ => r_assign) ?_
  refine OW.val hS rfl rfl rfl (fun _ _ => r_assign) ?_
  refine OW.val hS rfl rfl rfl (fun _ _ => r_assign) ?_
  refine OW.val hS rfl rfl rfl (fun _ _ => r_assign) ?_
  clear hS
  refine OW.nil (CW.fresh (rcFr sb so mb mo (gs v6 2 7 8 13 (m 2) (m 6))) ⟨rfl, rfl, rfl, rfl, rfl, rfl, rfl, rfl, rfl, rfl, rfl, rfl, rfl, rfl, rfl, rfl, rfl, rfl, trivial⟩ (φ := fun w' => ∃ q, w' = w.drewN q) ⟨q + 1, rfl⟩ ?_)
  clear q J
  rintro J _ ⟨q, rfl⟩
  obtain ⟨v7, hv7⟩ : ∃ z, z = gs v6 2 7 8 13 (m 2) (m 6) := ⟨_, rfl⟩
  rw [← hv7]
  refine CW.seq (CW.drawn (fun w => Rd w mb mo 16 .u32 m) [(0, true), (1, true), (2, true), (3, true), (4, true), (5, true), (6, true), (7, true), (8, true), (9, true), (10, true), (11, true), (12, false), (13, true), (14, true), (15, true), (16, true), (17, true), (18, true), (19, true), (20, true), (21, true)] mixed (by kernel_rfl) (by kernel_rfl) ?_)
  have hS : Rd (w.drewN q).drew mb mo 16 .u32 m := hm
  refine OW.val hS rfl rfl rfl (fun _ _ => r_move) ?_
  refine OW.val hS rfl rfl rfl (fun _ _ => r_move) ?_
  refine OW.val hS rfl rfl rfl (fun _ _ => r_move) ?_
  refine OW.val hS rfl rfl rfl (fun _ _ => r_move) ?_
  refine OW.val hS rfl rfl rfl (fun _ _ => r_move) ?_
  refine OW.val hS rfl rfl rfl (fun _ _ => r_nil rfl) ?_
  refine OW.val hS rfl rfl rfl (fun _ _ => r_index_arr rfl rfl arr57 (by decide) (by decide)) ?_
  refine OW.val hS rfl rfl rfl (fun _ hS => r_load rfl one43 (hS 4 (by decide))) ?_
  refine OW.val hS rfl rfl rfl (fun _ _ => r_move) ?_
  refine OW.val hS rfl rfl rfl (fun _ _ => r_nil rfl) ?_
  refine OW.val hS rfl rfl rfl (fun _ _ => r_index_arr rfl rfl arr57 (by decide) (by decide)) ?_
  refine OW.val hS rfl rfl rfl (fun _ hS => r_load rfl one43 (hS 7 (by decide))) ?_
  refine OW.call rfl rfl rfl (e_call en48) ?_
  refine (g_any _ _ _ _ _ _ _).mono ?_
  rintro e w' ⟨rfl, rfl⟩
  refine ⟨_, rfl, hS, ?_⟩
  refine OW.val hS rfl rfl rfl (fun _ _ => r_move) ?_
  refine OW.val hS rfl rfl rfl (fun _ _ => r_extract rfl rfl) ?_
  refine OW.val hS rfl rfl rfl (fun _ _ => r_extract rfl rfl) ?_
  refine OW.val hS rfl rfl rfl (fun _ _ => r_extract rfl rfl) ?_
  refine OW.val hS rfl rfl rfl (fun _ _ => r_extract rfl rfl) ?_
  refine OW.val hS rfl rfl rfl (fun _ _ => r_assign) ?_
  refine OW.val hS rfl rfl rfl (fun _ _ => r_assign) ?_
  refine OW.val hS rfl rfl rfl (fun _ _ => r_assign) ?_
  refine OW.val hS rfl rfl rfl (fun _ _ => r_assign) ?_
  clear hS
  refine OW.nil (CW.fresh (rcFr sb so mb mo (gs v7 3 4 9 14 (m 4) (m 7))) ⟨rfl, rfl, rfl, rfl, rfl, rfl, rfl, rfl, rfl, rfl, rfl, rfl, rfl, rfl, rfl, rfl, rfl, rfl, trivial⟩ (φ := fun w' => ∃ q, w' = w.drewN q) ⟨q + 1, rfl⟩ ?_)
  clear q J
  rintro J _ ⟨q, rfl⟩
  obtain ⟨v8, hv8⟩ : ∃ z, z = gs v7 3 4 9 14 (m 4) (m 7) := ⟨_, rfl⟩
  rw [← hv8]
  have hv : v8 = rnd5 v m := by
    subst hv8 hv7 hv6 hv5 hv4 hv3 hv2 hv1
    rfl
  rw [hv]
  exact h J q
set_option maxHeartbeats 4000000 in
set_option maxRecDepth 10000 in
theorem rc_rnd6 (k : Cont) (J : Env) (sb so mb mo q : Nat) (v m : Nat → Int) (w : World) (hm : Rd w mb mo 16 .u32 m) (h : ∀ J q, CW Tryd.prog 1212 (codeTl 60 rcBody) k (tab J (rcFr sb so mb mo (rnd6 v m))) (w.drewN q)) :
    CW Tryd.prog 1212 (codeTl 52 rcBody) k (tab J (rcFr sb so mb mo v)) (w.drewN q) := by
  refine CW.seq (CW.drawn (fun w => Rd w mb mo 16 .u32 m) [(0, true), (1, true), (2, true), (3, true), (4, true), (5, true), (6, true), (7, true), (8, true), (9, true), (10, true), (11, true), (12, false), (13, true), (14, true), (15, true), (16, true), (17, true), (18, true), (19, true), (20, true), (21, true)] mixed (by kernel_rfl) (by kernel_rfl) ?_)
  have hS : Rd (w.drewN q).drew mb mo 16 .u32 m := hm
  refine OW.val hS rfl rfl rfl (fun _ _ => r_move) ?_
  refine OW.val hS rfl rfl rfl (fun _ _ => r_move) ?_
  refine OW.val hS rfl rfl rfl (fun _ _ => r_move) ?_
  refine OW.val hS rfl rfl rfl (fun _ _ => r_move) ?_
  refine OW.val hS rfl rfl rfl (fun _ _ => r_move) ?_
  refine OW.val hS rfl rfl rfl (fun _ _ => r_nil rfl) ?_
  refine OW.val hS rfl rfl rfl (fun _ _ => r_index_arr rfl rfl arr57 (by decide) (by decide)) ?_
  refine OW.val hS rfl rfl rfl (fun _ hS => r_load rfl one43 (hS 11 (by decide))) ?_
  refine OW.val hS rfl rfl rfl (fun _ _ => r_move) ?_
  refine OW.val hS rfl rfl rfl (fun _ _ => r_nil rfl) ?_
  refine OW.val hS rfl rfl rfl (fun _ _ => r_index_arr rfl rfl arr57 (by decide) (by decide)) ?_
  refine OW.val hS rfl rfl rfl (fun _ hS => r_load rfl one43 (hS 15 (by decide))) ?_
  refine OW.call rfl rfl rfl (e_call en48) ?_
  refine (g_any _ _ _ _ _ _ _).mono ?_
  rintro e w' ⟨rfl, rfl⟩
  refine ⟨_, rfl, hS, ?_⟩
  refine OW.val hS rfl rfl rfl (fun _ _ => r_move) ?_
  refine OW.val hS rfl rfl rfl (fun _ _ => r_extract rfl rfl) ?_
  refine OW.val hS rfl rfl rfl (fun _ _ => r_extract rfl rfl) ?_
  refine OW.val hS rfl rfl rfl (fun _ _ => r_extract rfl rfl) ?_
  refine OW.val hS rfl rfl rfl (fun _ _ => r_extract rfl rfl) ?_
  refine OW.val hS rfl rfl rfl (fun _ _ => r_assign) ?_
  refine OW.val hS rfl rfl rfl (fun _ _ => r_assign) ?_
  refine OW.val hS rfl rfl rfl (fun _ _ => r_assign) ?_
  refine OW.val hS rfl rfl rfl (fun _ _ => r_assign) ?_
  clear hS
  refine OW.nil (CW.fresh (rcFr sb so mb mo (gs v 0 4 8 12 (m 11) (m 15))) ⟨rfl, rfl, rfl, rfl, rfl, rfl, rfl, rfl, rfl, rfl, rfl, rfl, rfl, rfl, rfl, rfl, rfl, rfl, trivial⟩ (φ := fun w' => ∃ q, w' = w.drewN q) ⟨q + 1, rfl⟩ ?_)
  clear q J
  rintro J _ ⟨q, rfl⟩
  obtain ⟨v1, hv1⟩ : ∃ z, z = gs v 0 4 8 12 (m 11) (m 15) := ⟨_, rfl⟩
  rw [← hv1]
  refine CW.seq (CW.drawn (fun w => Rd w mb mo 16 .u32 m) [(0, true), (1, true), (2, true), (3, true), (4, true), (5, true), (6, true), (7, true), (8, true), (9, true), (10, true), (11, true), (12, false), (13, true), (14, true), (15, true), (16, true), (17, true), (18, true), (19, true), (20, true), (21, true)] mixed (by kernel_rfl) (by kernel_rfl) ?_)
  have hS : Rd (w.drewN q).drew mb mo 16 .u32 m := hm
  refine OW.val hS rfl rfl rfl (fun _ _ => r_move) ?_
  refine OW.val hS rfl rfl rfl (fun _ _ => r_move) ?_
  refine OW.val hS rfl rfl rfl (fun _ _ => r_move) ?_
  refine OW.val hS rfl rfl rfl (fun _ _ => r_move) ?_
  refine OW.val hS rfl rfl rfl (fun _ _ => r_move) ?_
  refine OW.val hS rfl rfl rfl (fun _ _ => r_nil rfl) ?_
  refine OW.val hS rfl rfl rfl (fun _ _ => r_index_arr rfl rfl arr57 (by decide) (by decide)) ?_
  refine OW.val hS rfl rfl rfl (fun _ hS => r_load rfl one43 (hS 5 (by decide))) ?_
  refine OW.val hS rfl rfl rfl (fun _ _ => r_move) ?_
  refine OW.val hS rfl rfl rfl (fun _ _ => r_nil rfl) ?_
  refine OW.val hS rfl rfl rfl (fun _ _ => r_index_arr rfl rfl arr57 (by decide) (by decide)) ?_
  refine OW.val hS rfl rfl rfl (fun _ hS => r_load rfl one43 (hS 0 (by decide))) ?_
  refine OW.call rfl rfl rfl (e_call en48) ?_
  refine (g_any _ _ _ _ _ _ _).mono ?_
  rintro e w' ⟨rfl, rfl⟩
  refine ⟨_, rfl, hS, ?_⟩
  refine OW.val hS rfl rfl rfl (fun _ _ => r_move) ?_
  refine OW.val hS rfl rfl rfl (fun _ _ => r_extract rfl rfl) ?_
  refine OW.val hS rfl rfl rfl (fun _ _ => r_extract rfl rfl) ?_
  refine OW.val hS rfl rfl rfl (fun _ _ => r_extract rfl rfl) ?_
  refine OW.val hS rfl rfl rfl (fun _ _ => r_extract rfl rfl) ?_
  refine OW.val hS rfl rfl rfl (fun _ _ => r_assign) ?_
  refine OW.val hS rfl rfl rfl (fun _ _ => r_assign) ?_
  refine OW.val hS rfl rfl rfl (fun _ _ => r_assign) ?_
  refine OW.val hS rfl rfl rfl (fun _ _ => r_assign) ?_
  clear hS
  refine OW.nil (CW.fresh (rcFr sb so mb mo (gs v1 1 5 9 13 (m 5) (m 0))) ⟨rfl, rfl, rfl, rfl, rfl, rfl, rfl, rfl, rfl, rfl, rfl, rfl, rfl, rfl, rfl, rfl, rfl, rfl, trivial⟩ (φ := fun w' => ∃ q, w' = w.drewN q) ⟨q + 1, rfl⟩ ?_)
  clear q J
  rintro J _ ⟨q, rfl⟩
  obtain ⟨v2, hv2⟩ : ∃ z, z = gs v1 1 5 9 13 (m 5) (m 0) := ⟨_, rfl⟩
  rw [← hv2]
  refine CW.seq (CW.drawn (fun w => Rd w mb mo 16 .u32 m) [(0, true), (1, true), (2, true), (3, true), (4, true), (5, true), (6, true), (7, true), (8, true), (9, true), (10, true), (11, true), (12, false), (13, true), (14, true), (15, true), (16, true), (17, true), (18, true), (19, true), (20, true), (21, true)] mixed (by kernel_rfl) (by kernel_rfl) ?_)
  have hS : Rd (w.drewN q).drew mb mo 16 .u32 m := hm
  refine OW.val hS rfl rfl rfl (fun _ _ => r_move) ?_
  refine OW.val hS rfl rfl rfl (fun _ _ => r_move) ?_
  refine OW.val hS rfl rfl rfl (fun _ _ => r_move) ?_
  refine OW.val hS rfl rfl rfl (fun _ _ => r_move) ?_
  refine OW.val hS rfl rfl rfl (fun _ _ => r_move) ?_
  refine OW.val hS rfl rfl rfl (fun _ _ => r_nil rfl) ?_
  refine OW.val hS rfl rfl rfl (fun _ _ => r_index_arr rfl rfl arr57 (by decide) (by decide)) ?_
  refine OW.val hS rfl rfl rfl (fun _ hS => r_load rfl one43 (hS 1 (by decide))) ?_
  refine OW.val hS rfl rfl rfl (fun _ _ => r_move) ?_
  refine OW.val hS rfl rfl rfl (fun _ _ => r_nil rfl) ?_
  refine OW.val hS rfl rfl rfl (fun _ _ => r_index_arr rfl rfl arr57 (by decide) (by decide)) ?_
  refine OW.val hS rfl rfl rfl (fun _ hS => r_load rfl one43 (hS 9 (by decide))) ?_
  refine OW.call rfl rfl rfl (e_call en48) ?_
  refine (g_any _ _ _ _ _ _ _).mono ?_
  rintro e w' ⟨rfl, rfl⟩
  refine ⟨_, rfl, hS, ?_⟩
  refine OW.val hS rfl rfl rfl (fun _ _ => r_move) ?_
  refine OW.val hS rfl rfl rfl (fun _ _ => r_extract rfl rfl) ?_
  refine OW.val hS rfl rfl rfl (fun _ _ => r_extract rfl rfl) ?_
  refine OW.val hS rfl rfl rfl (fun _ _ => r_extract rfl rfl) ?_
  refine OW.val hS rfl rfl rfl (fun _ _ => r_extract rfl rfl) ?_
  refine OW.val hS rfl rfl rfl (fun _ _ => r_assign) ?_
  refine OW.val hS rfl rfl rfl (fun _ _ => r_assign) ?_
  refine OW.val hS rfl rfl rfl (fun _ _ => r_assign) ?_
  refine OW.val hS rfl rfl rfl (fun _ _ => r_assign) ?_
  clear hS
  refine OW.nil (CW.fresh (rcFr sb so mb mo (gs v2 2 6 10 14 (m 1) (m 9))) ⟨rfl, rfl, rfl, rfl, rfl, rfl, rfl, rfl, rfl, rfl, rfl, rfl, rfl, rfl, rfl, rfl, rfl, rfl, trivial⟩ (φ := fun w' => ∃ q, w' = w.drewN q) ⟨q + 1, rfl⟩ ?_)
  clear q J
  rintro J _ ⟨q, rfl⟩
  obtain ⟨v3, hv3⟩ : ∃ z, z = gs v2 2 6 10 14 (m 1) (m 9) := ⟨_, rfl⟩
  rw [← hv3]
  refine CW.seq (CW.drawn (fun w => Rd w mb mo 16 .u32 m) [(0, true), (1, true), (2, true), (3, true), (4, true), (5, true), (6, true), (7, true), (8, true), (9, true), (10, true), (11, true), (12, false), (13, true), (14, true), (15, true), (16, true), (17, true), (18, true), (19, true), (20, true), (21, true)] mixed (by kernel_rfl) (by kernel_rfl) ?_)
  have hS : Rd (w.drewN q).drew mb mo 16 .u32 m := hm
  refine OW.val hS rfl rfl rfl (fun _ _ => r_move) ?_
  refine OW.val hS rfl rfl rfl (fun _ _ => r_move) ?_
  refine OW.val hS rfl rfl rfl (fun _ _ => r_move) ?_
  refine OW.val hS rfl rfl rfl (fun _ _ => r_move) ?_
  refine OW.val hS rfl rfl rfl (fun _ _ => r_move) ?_
  refine OW.val hS rfl rfl rfl (fun _ _ => r_nil rfl) ?_
  refine OW.val hS rfl rfl rfl (fun _ _ => r_index_arr rfl rfl arr57 (by decide) (by decide)) ?_
  refine OW.val hS rfl rfl rfl (fun _ hS => r_load rfl one43 (hS 8 (by decide))) ?_
  refine OW.val hS rfl rfl rfl (fun _ _ => r_move) ?_
  refine OW.val hS rfl rfl rfl (fun _ _ => r_nil rfl) ?_
  refine OW.val hS rfl rfl rfl (fun _ _ => r_index_arr rfl rfl arr57 (by decide) (by decide)) ?_
  refine OW.val hS rfl rfl rfl (fun _ hS => r_load rfl one43 (hS 6 (by decide))) ?_
  refine OW.call rfl rfl rfl (e_call en48) ?_
  refine (g_any _ _ _ _ _ _ _).mono ?_
  rintro e w' ⟨rfl, rfl⟩
  refine ⟨_, rfl, hS, ?_⟩
  refine OW.val hS rfl rfl rfl (fun _ _ => r_move) ?_
  refine OW.val hS rfl rfl rfl (fun _ _ => r_extract rfl rfl) ?_
  refine OW.val hS rfl rfl rfl (fun _ _ => r_extract rfl rfl) ?_
  refine OW.val hS rfl rfl rfl (fun _ _ => r_extract rfl rfl) ?_
  refine OW.val hS rfl rfl rfl (fun _ _ => r_extract rfl rfl) ?_
  refine OW.val hS rfl rfl rfl (fun _ _ => r_assign) ?_
  refine OW.val hS rfl rfl rfl (fun _ _ => r_assign) ?_
  refine OW.val hS rfl rfl rfl (fun _ _ => r_assign) ?_
  refine OW.val hS rfl rfl rfl (fun _ _ => r_assign) ?_
  clear hS
  refine OW.nil (CW.fresh (rcFr sb so mb mo (gs v3 3 7 11 15 (m 8) (m 6))) ⟨rfl, rfl, rfl, rfl, rfl, rfl, rfl, rfl, rfl, rfl, rfl, rfl, rfl, rfl, rfl, rfl, rfl, rfl, trivial⟩ (φ := fun w' => ∃ q, w' = w.drewN q) ⟨q + 1, rfl⟩ ?_)
  clear q J
  rintro J _ ⟨q, rfl⟩
  obtain ⟨v4, hv4⟩ : ∃ z, z = gs v3 3 7 11 15 (m 8) (m 6) := ⟨_, rfl⟩
  rw [← hv4]
  refine CW.seq (CW.drawn (fun w => Rd w mb mo 16 .u32 m) [(0, true), (1, true), (2, true), (3, true), (4, true), (5, true), (6, true), (7, true), (8, true), (9, true), (10, true), (11, true), (12, false), (13, true), (14, true), (15, true), (16, true), (17, true), (18, true), (19, true), (20, true), (21, true)] mixed (by kernel_rfl) (by kernel_rfl) ?_)
  have hS : Rd (w.drewN q).drew mb mo 16 .u32 m := hm
  refine OW.val hS rfl rfl rfl (fun _ _ => r_move) ?_
  refine OW.val hS rfl rfl rfl (fun _ _ => r_move) ?_
  refine OW.val hS rfl rfl rfl (fun _ _ => r_move) ?_
  refine OW.val hS rfl rfl rfl (fun _ _ => r_move) ?_
  refine OW.val hS rfl rfl rfl (fun _ _ => r_move) ?_
  refine OW.val hS rfl rfl rfl (fun _ _ => r_nil rfl) ?_
  refine OW.val hS rfl rfl rfl (fun _ _ => r_index_arr rfl rfl arr57 (by decide) (by decide)) ?_
  refine OW.val hS rfl rfl rfl (fun _ hS => r_load rfl one43 (hS 14 (by decide))) ?_
  refine OW.val hS rfl rfl rfl (fun _ _ => r_move) ?_
  refine OW.val hS rfl rfl rfl (fun _ _ => r_nil rfl) ?_
  refine OW.val hS rfl rfl rfl (fun _ _ => r_index_arr rfl rfl arr57 (by decide) (by decide)) ?_
  refine OW.val hS rfl rfl rfl (fun _ hS => r_load rfl one43 (hS 10 (by decide))) ?_
  refine OW.call rfl rfl rfl (e_call en48) ?_
  refine (g_any _ _ _ _ _ _ _).mono ?_
  rintro e w' ⟨rfl, rfl⟩
  refine ⟨_, rfl, hS, ?_⟩
  refine OW.val hS rfl rfl rfl (fun _ _ => r_move) ?_
  refine OW.val hS rfl rfl rfl (fun _ _ => r_extract rfl rfl) ?_
  refine OW.val hS rfl rfl rfl (fun _ _ => r_extract rfl rfl) ?_
  refine OW.val hS rfl rfl rfl (fun _ _ => r_extract rfl rfl) ?_
  refine OW.val hS rfl rfl rfl (fun _ _ => r_extract rfl rfl) ?_
  refine OW.val hS rfl rfl rfl (fun _ _ => r_assign) ?_
  refine OW.val hS rfl rfl rfl (fun _ _ => r_assign) ?_
  refine OW.val hS rfl rfl rfl (fun _ _ => r_assign) ?_
  refine OW.val hS rfl rfl rfl (fun _ _ => r_assign) ?_
  clear hS
  refine OW.nil (CW.fresh (rcFr sb so mb mo (gs v4 0 5 10 15 (m 14) (m 10))) ⟨rfl, rfl, rfl, rfl, rfl, rfl, rfl, rfl, rfl, rfl, rfl, rfl, rfl, rfl, rfl, rfl, rfl, rfl, trivial⟩ (φ := fun w' => ∃ q, w' = w.drewN q) ⟨q + 1, rfl⟩ ?_)
  clear q J
  rintro J _ ⟨q, rfl⟩
  obtain ⟨v5, hv5⟩ : ∃ z, z = gs v4 0 5 10 15 (m 14) (m 10) := ⟨_, rfl⟩
  rw [← hv5]
  refine CW.seq (CW.drawn (fun w => Rd w mb mo 16 .u32 m) [(0, true), (1, true), (2, true), (3, true), (4, true), (5, true), (6, true), (7, true), (8, true), (9, true), (10, true), (11, true), (12, false), (13, true), (14, true), (15, true), (16, true), (17, true), (18, true), (19, true), (20, true), (21, true)] mixed (by kernel_rfl) (by kernel_rfl) ?_)
  have hS : Rd (w.drewN q).drew mb mo 16 .u32 m := hm
  refine OW.val hS rfl rfl rfl (fun _ _ => r_move) ?_
  refine OW.val hS rfl rfl rfl (fun _ _ => r_move) ?_
  refine OW.val hS rfl rfl rfl (fun _ _ => r_move) ?_
  refine OW.val hS rfl rfl rfl (fun _ _ => r_move) ?_
  refine OW.val hS rfl rfl rfl (fun _ _ => r_move) ?_
  refine OW.val hS rfl rfl rfl (fun _ _ => r_nil rfl) ?_
  refine OW.val hS rfl rfl rfl (fun _ _ => r_index_arr rfl rfl arr57 (by decide) (by decide)) ?_
  refine OW.val hS rfl rfl rfl (fun _ hS => r_load rfl one43 (hS 2 (by decide))) ?_
  refine OW.val hS rfl rfl rfl (fun _ _ => r_move) ?_
  refine OW.val hS rfl rfl rfl (fun _ _ => r_nil rfl) ?_
  refine OW.val hS rfl rfl rfl (fun _ _ => r_index_arr rfl rfl arr57 (by decide) (by decide)) ?_
  refine OW.val hS rfl rfl rfl (fun _ hS => r_load rfl one43 (hS 12 (by decide))) ?_
  refine OW.call rfl rfl rfl (e_call en48) ?_
  refine (g_any _ _ _ _ _ _ _).mono ?_
  rintro e w' ⟨rfl, rfl⟩
  refine ⟨_, rfl, hS, ?_⟩
  refine OW.val hS rfl rfl rfl (fun _ _ => r_move) ?_
  refine OW.val hS rfl rfl rfl (fun _ _ => r_extract rfl rfl) ?_
  refine OW.val hS rfl rfl rfl (fun _ _ => r_extract rfl rfl) ?_
  refine OW.val hS rfl rfl rfl (fun _ _ => r_extract rfl rfl) ?_
  refine OW.val hS rfl rfl rfl (fun _ _ => r_extract rfl rfl) ?_
  refine OW.val hS rfl rfl rfl (fun _ _ => r_assign) ?_
  refine OW.val hS rfl rfl rfl (fun _ _ => r_assign) ?_
  refine OW.val hS rfl rfl rfl (fun _ _ => r_assign) ?_
  refine OW.val hS rfl rfl rfl (fun _ _ => r_assign) ?_
  clear hS
  refine OW.nil (CW.fresh (rcFr sb so mb mo (gs v5 1 6 11 12 (m 2) (m 12))) ⟨rfl, rfl, rfl, rfl, rfl, rfl, rfl, rfl, rfl, rfl, rfl, rfl, rfl, rfl, rfl, rfl, rfl, rfl, trivial⟩ (φ := fun w' => ∃ q, w' = w.drewN q) ⟨q + 1, rfl⟩ ?_)
  clear q J
  rintro J _ ⟨q, rfl⟩
  obtain ⟨v6, hv6⟩ : ∃ z, z = gs v5 1 6 11 12 (m 2) (m 12) := ⟨_, rfl⟩
  rw [← hv6]
  refine CW.seq (CW.drawn (fun w => Rd w mb mo 16 .u32 m) [(0, true), (1, true), (2, true), (3, true), (4, true), (5, true), (6, true), (7, true), (8, true), (9, true), (10, true), (11, true), (12, false), (13, true), (14, true), (15, true), (16, true), (17, true), (18, true), (19, true), (20, true), (21, true)] mixed (by kernel_rfl) (by kernel_rfl) ?_)
  have hS : Rd (w.drewN q).drew mb mo 16 .u32 m := hm
  refine OW.val hS rfl rfl rfl (fun _ _ => r_move) ?_
  refine OW.val hS rfl rfl rfl (fun _ _ => r_move) ?_
  refine OW.val hS rfl rfl rfl (fun _ _ => r_move) ?_
  refine OW.val hS rfl rfl rfl (fun _ _ => r_move) ?_
  refine OW.val hS rfl rfl rfl (fun _ _ => r_move) ?_
  refine OW.val hS rfl rfl rfl (fun _ _ => r_nil rfl) ?_
  refine OW.val hS rfl rfl rfl (fun _ _ => r_index_arr rfl rfl arr57 (by decide) (by decide)) ?_
  refine OW.val hS rfl rfl rfl (fun _ hS => r_load rfl one43 (hS 3 (by decide))) ?_
  refine OW.val hS rfl rfl rfl (fun _ _ => r_move) ?_
  refine OW.val hS rfl rfl rfl (fun _ _ => r_nil rfl) ?_
  refine OW.val hS rfl rfl rfl (fun _ _ => r_index_arr rfl rfl arr57 (by decide) (by decide)) ?_
  refine OW.val hS rfl rfl rfl (fun _ hS => r_load rfl one43 (hS 4 (by decide))) ?_
  refine OW.call rfl rfl rfl (e_call en48) ?_
  refine (g_any _ _ _ _ _ _ _).mono ?_
  rintro e w' ⟨rfl, rfl⟩
  refine ⟨_, rfl, hS, ?_⟩
  refine OW.val hS rfl rfl rfl (fun _ _ => r_move) ?_
  refine OW.val hS rfl rfl rfl (fun _ _ => r_extract rfl rfl) ?_
  refine OW.val hS rfl rfl rfl (fun _ _ => r_extract rfl rfl) ?_
  refine OW.val hS rfl rfl rfl (fun _ _ => r_extract rfl rfl) ?_
  refine OW.val hS rfl rfl rfl (fun _ _ => r_extract rfl rfl) ?_
  refine OW.val hS rfl rfl rfl (fun _ _ => r_assign) ?_
  refine OW.val hS rfl rfl rfl (fun _ _ => r_assign) ?_
  refine OW.val hS rfl rfl rfl (fun _ _ => r_assign) ?_
  refine OW.val hS rfl rfl rfl (fun _ _ => r_assign) ?_
  clear hS
  refine OW.nil (CW.fresh (rcFr sb so mb mo (gs v6 2 7 8 13 (m 3) (m 4))) ⟨rfl, rfl, rfl, rfl, rfl, rfl, rfl, rfl, rfl, rfl, rfl, rfl, rfl, rfl, rfl, rfl, rfl, rfl, trivial⟩ (φ := fun w' => ∃ q, w' = w.drewN q) ⟨q + 1, rfl⟩ ?_)
  clear q J
  rintro J _ ⟨q, rfl⟩
  obtain ⟨v7, hv7⟩ : ∃ z, z = gs v6 2 7 8 13 (m 3) (m 4) := ⟨_, rfl⟩
  rw [← hv7]
  refine CW.seq (CW.drawn (fun w => Rd w mb mo 16 .u32 m) [(0, true), (1, true), (2, true), (3, true), (4, true), (5, true), (6, true), (7, true), (8, true), (9, true), (10, true), (11, true), (12, false), (13, true), (14, true), (15, true), (16, true), (17, true), (18, true), (19, true), (20, true), (21, true)] mixed (by kernel_rfl) (by kernel_rfl) ?_)
  have hS : Rd (w.drewN q).drew mb mo 16 .u32 m := hm
  refine OW.val hS rfl rfl rfl (fun _ _ => r_move) ?_
  refine OW.val hS rfl rfl rfl (fun _ _ => r_move) ?_
  refine OW.val hS rfl rfl rfl (fun _ _ => r_move) ?_
  refine OW.val hS rfl rfl rfl (fun _ _ => r_move) ?_
  refine OW.val hS rfl rfl rfl (fun _ _ => r_move) ?_
  refine OW.val hS rfl rfl rfl (fun _ _ => r_nil rfl) ?_
  refine OW.val hS rfl rfl rfl (fun _ _ => r_index_arr rfl rfl arr57 (by decide) (by decide)) ?_
  refine OW.val hS rfl rfl rfl (fun _ hS => r_load rfl one43 (hS 7 (by decide))) ?_
  refine OW.val hS rfl rfl rfl (fun _ _ => r_move) ?_
  refine OW.val hS rfl rfl rfl (fun _ _ => r_nil rfl) ?_
  refine OW.val hS rfl rfl rfl (fun _ _ => r_index_arr rfl rfl arr57 (by decide) (by decide)) ?_
  refine OW.val hS rfl rfl rfl (fun _ hS => r_load rfl one43 (hS 13 (by decide))) ?_
  refine OW.call rfl rfl rfl (e_call en48) ?_
  refine (g_any _ _ _ _ _ _ _).mono ?_
  rintro e w' ⟨rfl, rfl⟩
  refine ⟨_, rfl, hS, ?_⟩
  refine OW.val hS rfl rfl rfl (fun _ _ => r_move) ?_
  refine OW.val hS rfl rfl rfl (fun _ _ => r_extract rfl rfl) ?_
  refine OW.val hS rfl rfl rfl (fun _ _ => r_extract rfl rfl) ?_
  refine OW.val hS rfl rfl rfl (fun _ _ => r_extract rfl rfl) ?_
  refine OW.val hS rfl rfl rfl (fun _ _ => r_extract rfl rfl) ?_
  refine OW.val hS rfl rfl rfl (fun _ _ => r_assign) ?_
  refine OW.val hS rfl rfl rfl (fun _ _ => r_assign) ?_
  refine OW.val hS rfl rfl rfl (fun _ _ => r_assign) ?_
  refine OW.val hS rfl rfl rfl (fun _ _ => r_assign) ?_
  clear hS
  refine OW.nil (CW.fresh (rcFr sb so mb mo (gs v7 3 4 9 14 (m 7) (m 13))) ⟨rfl, rfl, rfl, rfl, rfl, rfl, rfl, rfl, rfl, rfl, rfl, rfl, rfl, rfl, rfl, rfl, rfl, rfl, trivial⟩ (φ := fun w' => ∃ q, w' = w.drewN q) ⟨q + 1, rfl⟩ ?_)
  clear q J
  rintro J _ ⟨q, rfl⟩
  obtain ⟨v8, hv8⟩ : ∃ z, z = gs v7 3 4 9 14 (m 7) (m 13) := ⟨_, rfl⟩
  rw [← hv8]
  have hv : v8 = rnd6 v m := by
    subst hv8 hv7 hv6 hv5 hv4 hv3 hv2 hv1
    rfl
  rw [hv]
  exact h J q
set_option maxHeartbeats 4000000 in
set_option maxRecDepth 10000 in
theorem rc_mid (k : Cont) (J : Env) (sb so mb mo n : Nat) (c : Nat → Value) (te : TypeId) (s v : Nat → Int) (w w0 : World) (hcs : ∀ i, i < 16 → c (so + i) = .int .u32 (s i)) (ho : so + 16 ≤ n) (hB : Blk w0 sb n c te) (hM0 : Mod [sb] w w0)
    (h : ∀ J w', Mod [sb] w w' → Blk w' sb n (put c (so + 8) 8 (fun i => .int .u32 (bw .xor .u32 (v (8 + i)) (s i)))) te → CW Tryd.prog 1212 (codeTl 68 rcBody) k (tab J (rcFr sb so mb mo v)) w') :
    CW Tryd.prog 1212 (codeTl 60 rcBody) k (tab J (rcFr sb so mb mo v)) w0 := by
  have hB0 : Blk w0 sb n (put c (so + 8) 0 (fun i => .int .u32 (bw .xor .u32 (v (8 + i)) (s i)))) te := by rw [put_zero]; exact hB
  have hS : w0.drew.cell? ⟨sb, so + 0, none⟩ = some (.int .u32 (s 0)) := (hB0.drew.cell (by omega)).trans (by rw [put_out _ _ (by omega), hcs 0 (by decide)])
  refine CW.seq (CW.drawn (fun w => w.cell? ⟨sb, so + 0, none⟩ = some (.int .u32 (s 0))) [(0, true), (1, true), (2, true), (3, true), (4, true), (5, true), (6, true), (7, true), (8, true), (9, false)] mixed (by kernel_rfl) (by kernel_rfl) ?_)
  refine OW.val hS rfl rfl rfl (fun _ _ => r_move) ?_
  refine OW.val hS rfl rfl rfl (fun _ _ => r_move) ?_
  refine OW.val hS rfl rfl rfl (fun _ _ => r_move) ?_
  refine OW.val hS rfl rfl rfl (fun _ _ => r_nil rfl) ?_
  refine OW.val hS rfl rfl rfl (fun _ _ => r_index_arr rfl rfl arr57 (by decide) (by decide)) ?_
  refine OW.val hS rfl rfl rfl (fun _ hS => r_load rfl one43 hS) ?_
  refine OW.val hS rfl rfl rfl (fun _ _ => r_xor rfl rfl) ?_
  refine OW.val hS rfl rfl rfl (fun _ _ => r_nil rfl) ?_
  refine OW.val hS rfl rfl rfl (fun _ _ => r_index_arr rfl rfl arr57 (by decide) (by decide)) ?_
  refine OW.eff rfl rfl rfl (r_storeB rfl rfl one43 rfl hB0.drew (by omega)) (((hB0.drew.set (i := so + (8 + 0)) (.int .u32 (bw .xor .u32 (v (8 + 0)) (s 0))) (by omega)).cell (i := so + 0) (by omega)).trans (by rw [upd_other _ _ (by omega), put_out _ _ (by omega), hcs 0 (by decide)])) ?_
  clear hS
  refine OW.nil (CW.fresh (rcFr sb so mb mo v) ⟨rfl, rfl, rfl, rfl, rfl, rfl, rfl, rfl, rfl, rfl, rfl, rfl, rfl, rfl, rfl, rfl, rfl, rfl, trivial⟩ (φ := fun w' => Mod [sb] w w' ∧ Blk w' sb n (put c (so + 8) 1 (fun i => .int .u32 (bw .xor .u32 (v (8 + i)) (s i)))) te) ⟨(hM0.trans (Mod.drew [] _) (by simp)).trans (Mod.set _ sb (so + (8 + 0)) _) (by simp), (congrArg (fun c => Blk _ sb n c te) (put_snoc c (so + 8) 0 (fun i => .int .u32 (bw .xor .u32 (v (8 + i)) (s i))) (.int .u32 (bw .xor .u32 (v (8 + 0)) (s 0))) rfl)).mp ((congrArg (fun o => Blk _ sb n (upd (put c (so + 8) 0 (fun i => .int .u32 (bw .xor .u32 (v (8 + i)) (s i)))) o (.int .u32 (bw .xor .u32 (v (8 + 0)) (s 0)))) te) (show so + (8 + 0) = so + 8 + 0 by omega)).mp (hB0.drew.set (i := so + (8 + 0)) (.int .u32 (bw .xor .u32 (v (8 + 0)) (s 0))) (by omega)))⟩ ?_)
  clear J hB0 hM0
  rintro J w1 ⟨hM1, hB1⟩
  have hS : w1.drew.cell? ⟨sb, so + 1, none⟩ = some (.int .u32 (s 1)) := (hB1.drew.cell (by omega)).trans (by rw [put_out _ _ (by omega), hcs 1 (by decide)])
  refine CW.seq (CW.drawn (fun w => w.cell? ⟨sb, so + 1, none⟩ = some (.int .u32 (s 1))) [(0, true), (1, true), (2, true), (3, true), (4, true), (5, true), (6, true), (7, true), (8, true), (9, false)] mixed (by kernel_rfl) (by kernel_rfl) ?_)
  refine OW.val hS rfl rfl rfl (fun _ _ => r_move) ?_
  refine OW.val hS rfl rfl rfl (fun _ _ => r_move) ?_
  refine OW.val hS rfl rfl rfl (fun _ _ => r_move) ?_
  refine OW.val hS rfl rfl rfl (fun _ _ => r_nil rfl) ?_
  refine OW.val hS rfl rfl rfl (fun _ _ => r_index_arr rfl rfl arr57 (by decide) (by decide)) ?_
  refine OW.val hS rfl rfl rfl (fun _ hS => r_load rfl one43 hS) ?_
  refine OW.val hS rfl rfl rfl (fun _ _ => r_xor rfl rfl) ?_
  refine OW.val hS rfl rfl rfl (fun _ _ => r_nil rfl) ?_
  refine OW.val hS rfl rfl rfl (fun _ _ => r_index_arr rfl rfl arr57 (by decide) (by decide)) ?_
  refine OW.eff rfl rfl rfl (r_storeB rfl rfl one43 rfl hB1.drew (by omega)) (((hB1.drew.set (i := so + (8 + 1)) (.int .u32 (bw .xor .u32 (v (8 + 1)) (s 1))) (by omega)).cell (i := so + 1) (by omega)).trans (by rw [upd_other _ _ (by omega), put_out _ _ (by omega), hcs 1 (by decide)])) ?_
  clear hS
  refine OW.nil (CW.fresh (rcFr sb so mb mo v) ⟨rfl, rfl, rfl, rfl, rfl, rfl, rfl, rfl, rfl, rfl, rfl, rfl, rfl, rfl, rfl, rfl, rfl, rfl, trivial⟩ (φ := fun w' => Mod [sb] w w' ∧ Blk w' sb n (put c (so + 8) 2 (fun i => .int .u32 (bw .xor .u32 (v (8 + i)) (s i)))) te) ⟨(hM1.trans (Mod.drew [] _) (by simp)).trans (Mod.set _ sb (so + (8 + 1)) _) (by simp), (congrArg (fun c => Blk _ sb n c te) (put_snoc c (so + 8) 1 (fun i => .int .u32 (bw .xor .u32 (v (8 + i)) (s i))) (.int .u32 (bw .xor .u32 (v (8 + 1)) (s 1))) rfl)).mp ((congrArg (fun o => Blk _ sb n (upd (put c (so + 8) 1 (fun i => .int .u32 (bw .xor .u32 (v (8 + i)) (s i)))) o (.int .u32 (bw .xor .u32 (v (8 + 1)) (s 1)))) te) (show so + (8 + 1) = so + 8 + 1 by omega)).mp (hB1.drew.set (i := so + (8 + 1)) (.int .u32 (bw .xor .u32 (v (8 + 1)) (s 1))) (by omega)))⟩ ?_)
  clear J hB1 hM1
  rintro J w2 ⟨hM2, hB2⟩
  have hS : w2.drew.cell? ⟨sb, so + 2, none⟩ = some (.int .u32 (s 2)) := (hB2.drew.cell (by omega)).trans (by rw [put_out _ _ (by omega), hcs 2 (by decide)])
  refine CW.seq (CW.drawn (fun w => w.cell? ⟨sb, so + 2, none⟩ = some (.int .u32 (s 2))) [(0, true), (1, true), (2, true), (3, true), (4, true), (5, true), (6, true), (7, true), (8, true), (9, false)] mixed (by kernel_rfl) (by kernel_rfl) ?_)
  refine OW.val hS rfl rfl rfl (fun _ _ => r_move) ?_
  refine OW.val hS rfl rfl rfl (fun _ _ => r_move) ?_
  refine OW.val hS rfl rfl rfl (fun _ _ => r_move) ?_
  refine OW.val hS rfl rfl rfl (fun _ _ => r_nil rfl) ?_
  refine OW.val hS rfl rfl rfl (fun _ _ => r_index_arr rfl rfl arr57 (by decide) (by decide)) ?_
  refine OW.val hS rfl rfl rfl (fun _ hS => r_load rfl one43 hS) ?_
  refine OW.val hS rfl rfl rfl (fun _ _ => r_xor rfl rfl) ?_
  refine OW.val hS rfl rfl rfl (fun _ _ => r_nil rfl) ?_
  refine OW.val hS rfl rfl rfl (fun _ _ => r_index_arr rfl rfl arr57 (by decide) (by decide)) ?_
  refine OW.eff rfl rfl rfl (r_storeB rfl rfl one43 rfl hB2.drew (by omega)) (((hB2.drew.set (i := so + (8 + 2)) (.int .u32 (bw .xor .u32 (v (8 + 2)) (s 2))) (by omega)).cell (i := so + 2) (by omega)).trans (by rw [upd_other _ _ (by omega), put_out _ _ (by omega), hcs 2 (by decide)])) ?_
  clear hS
  refine OW.nil (CW.fresh (rcFr sb so mb mo v) ⟨rfl, rfl, rfl, rfl, rfl, rfl, rfl, rfl, rfl, rfl, rfl, rfl, rfl, rfl, rfl, rfl, rfl, rfl, trivial⟩ (φ := fun w' => Mod [sb] w w' ∧ Blk w' sb n (put c (so + 8) 3 (fun i => .int .u32 (bw .xor .u32 (v (8 + i)) (s i)))) te) ⟨(hM2.trans (Mod.drew [] _) (by simp)).trans (Mod.set _ sb (so + (8 + 2)) _) (by simp), (congrArg (fun c => Blk _ sb n c te) (put_snoc c (so + 8) 2 (fun i => .int .u32 (bw .xor .u32 (v (8 + i)) (s i))) (.int .u32 (bw .xor .u32 (v (8 + 2)) (s 2))) rfl)).mp ((congrArg (fun o => Blk _ sb n (upd (put c (so + 8) 2 (fun i => .int .u32 (bw .xor .u32 (v (8 + i)) (s i)))) o (.int .u32 (bw .xor .u32 (v (8 + 2)) (s 2)))) te) (show so + (8 + 2) = so + 8 + 2 by omega)).mp (hB2.drew.set (i := so + (8 + 2)) (.int .u32 (bw .xor .u32 (v (8 + 2)) (s 2))) (by omega)))⟩ ?_)
  clear J hB2 hM2
  rintro J w3 ⟨hM3, hB3⟩
  have hS : w3.drew.cell? ⟨sb, so + 3, none⟩ = some (.int .u32 (s 3)) := (hB3.drew.cell (by omega)).trans (by rw [put_out _ _ (by omega), hcs 3 (by decide)])
  refine CW.seq (CW.drawn (fun w => w.cell? ⟨sb, so + 3, none⟩ = some (.int .u32 (s 3))) [(0, true), (1, true), (2, true), (3, true), (4, true), (5, true), (6, true), (7, true), (8, true), (9, false)] mixed (by kernel_rfl) (by kernel_rfl) ?_)
  refine OW.val hS rfl rfl rfl (fun _ _ => r_move) ?_
  refine OW.val hS rfl rfl rfl (fun _ _ => r_move) ?_
  refine OW.val hS rfl rfl rfl (fun _ _ => r_move) ?_
  refine OW.val hS rfl rfl rfl (fun _ _ => r_nil rfl) ?_
  refine OW.val hS rfl rfl rfl (fun _ _ => r_index_arr rfl rfl arr57 (by decide) (by decide)) ?_
  refine OW.val hS rfl rfl rfl (fun _ hS => r_load rfl one43 hS) ?_
  refine OW.val hS rfl rfl rfl (fun _ _ => r_xor rfl rfl) ?_
  refine OW.val hS rfl rfl rfl (fun _ _ => r_nil rfl) ?_
  refine OW.val hS rfl rfl rfl (fun _ _ => r_index_arr rfl rfl arr57 (by decide) (by decide)) ?_
  refine OW.eff rfl rfl rfl (r_storeB rfl rfl one43 rfl hB3.drew (by omega)) (((hB3.drew.set (i := so + (8 + 3)) (.int .u32 (bw .xor .u32 (v (8 + 3)) (s 3))) (by omega)).cell (i := so + 3) (by omega)).trans (by rw [upd_other _ _ (by omega), put_out _ _ (by omega), hcs 3 (by decide)])) ?_
  clear hS
  refine OW.nil (CW.fresh (rcFr sb so mb mo v) ⟨rfl, rfl, rfl, rfl, rfl, rfl, rfl, rfl, rfl, rfl, rfl, rfl, rfl, rfl, rfl, rfl, rfl, rfl, trivial⟩ (φ := fun w' => Mod [sb] w w' ∧ Blk w' sb n (put c (so + 8) 4 (fun i => .int .u32 (bw .xor .u32 (v (8 + i)) (s i)))) te) ⟨(hM3.trans (Mod.drew [] _) (by simp)).trans (Mod.set _ sb (so + (8 + 3)) _) (by simp), (congrArg (fun c => Blk _ sb n c te) (put_snoc c (so + 8) 3 (fun i => .int .u32 (bw .xor .u32 (v (8 + i)) (s i))) (.int .u32 (bw .xor .u32 (v (8 + 3)) (s 3))) rfl)).mp ((congrArg (fun o => Blk _ sb n (upd (put c (so + 8) 3 (fun i => .int .u32 (bw .xor .u32 (v (8 + i)) (s i)))) o (.int .u32 (bw .xor .u32 (v (8 + 3)) (s 3)))) te) (show so + (8 + 3) = so + 8 + 3 by omega)).mp (hB3.drew.set (i := so + (8 + 3)) (.int .u32 (bw .xor .u32 (v (8 + 3)) (s 3))) (by omega)))⟩ ?_)
  clear J hB3 hM3
  rintro J w4 ⟨hM4, hB4⟩
  have hS : w4.drew.cell? ⟨sb, so + 4, none⟩ = some (.int .u32 (s 4)) := (hB4.drew.cell (by omega)).trans (by rw [put_out _ _ (by omega), hcs 4 (by decide)])
  refine CW.seq (CW.drawn (fun w => w.cell? ⟨sb, so + 4, none⟩ = some (.int .u32 (s 4))) [(0, true), (1, true), (2, true), (3, true), (4, true), (5, true), (6, true), (7, true), (8, true), (9, false)] mixed (by kernel_rfl) (by kernel_rfl) ?_)
  refine OW.val hS rfl rfl rfl (fun _ _ => r_move) ?_
  refine OW.val hS rfl rfl rfl (fun _ _ => r_move) ?_
  refine OW.val hS rfl rfl rfl (fun _ _ => r_move) ?_
  refine OW.val hS rfl rfl rfl (fun _ _ => r_nil rfl) ?_
  refine OW.val hS rfl rfl rfl (fun _ _ => r_index_arr rfl rfl arr57 (by decide) (by decide)) ?_
  refine OW.val hS rfl rfl rfl (fun _ hS => r_load rfl one43 hS) ?_
  refine OW.val hS rfl rfl rfl (fun _ _ => r_xor rfl rfl) ?_
  refine OW.val hS rfl rfl rfl (fun _ _ => r_nil rfl) ?_
  refine OW.val hS rfl rfl rfl (fun _ _ => r_index_arr rfl rfl arr57 (by decide) (by decide)) ?_
  refine OW.eff rfl rfl rfl (r_storeB rfl rfl one43 rfl hB4.drew (by omega)) (((hB4.drew.set (i := so + (8 + 4)) (.int .u32 (bw .xor .u32 (v (8 + 4)) (s 4))) (by omega)).cell (i := so + 4) (by omega)).trans (by rw [upd_other _ _ (by omega), put_out _ _ (by omega), hcs 4 (by decide)])) ?_
  clear hS
  refine OW.nil (CW.fresh (rcFr sb so mb mo v) ⟨rfl, rfl, rfl, rfl, rfl, rfl, rfl, rfl, rfl, rfl, rfl, rfl, rfl, rfl, rfl, rfl, rfl, rfl, trivial⟩ (φ := fun w' => Mod [sb] w w' ∧ Blk w' sb n (put c (so + 8) 5 (fun i => .int .u32 (bw .xor .u32 (v (8 + i)) (s i)))) te) ⟨(hM4.trans (Mod.drew [] _) (by simp)).trans (Mod.set _ sb (so + (8 + 4)) _) (by simp), (congrArg (fun c => Blk _ sb n c te) (put_snoc c (so + 8) 4 (fun i => .int .u32 (bw .xor .u32 (v (8 + i)) (s i))) (.int .u32 (bw .xor .u32 (v (8 + 4)) (s 4))) rfl)).mp ((congrArg (fun o => Blk _ sb n (upd (put c (so + 8) 4 (fun i => .int .u32 (bw .xor .u32 (v (8 + i)) (s i)))) o (.int .u32 (bw .xor .u32 (v (8 + 4)) (s 4)))) te) (show so + (8 + 4) = so + 8 + 4 by omega)).mp (hB4.drew.set (i := so + (8 + 4)) (.int .u32 (bw .xor .u32 (v (8 + 4)) (s 4))) (by omega)))⟩ ?_)
  clear J hB4 hM4
  rintro J w5 ⟨hM5, hB5⟩
  have hS : w5.drew.cell? ⟨sb, so + 5, none⟩ = some (.int .u32 (s 5)) := (hB5.drew.cell (by omega)).trans (by rw [put_out _ _ (by omega), hcs 5 (by decide)])
  refine CW.seq (CW.drawn (fun w => w.cell? ⟨sb, so + 5, none⟩ = some (.int .u32 (s 5))) [(0, true), (1, true), (2, true), (3, true), (4, true), (5, true), (6, true), (7, true), (8, true), (9, false)] mixed (by kernel_rfl) (by kernel_rfl) ?_)
  refine OW.val hS rfl rfl rfl (fun _ _ => r_move) ?_
  refine OW.val hS rfl rfl rfl (fun _ _ => r_move) ?_
  refine OW.val hS rfl rfl rfl (fun _ _ => r_move) ?_
  refine OW.val hS rfl rfl rfl (fun _ _ => r_nil rfl) ?_
  refine OW.val hS rfl rfl rfl (fun _ _ => r_index_arr rfl rfl arr57 (by decide) (by decide)) ?_
  refine OW.val hS rfl rfl rfl (fun _ hS => r_load rfl one43 hS) ?_
  refine OW.val hS rfl rfl rfl (fun _ _ => r_xor rfl rfl) ?_
  refine OW.val hS rfl rfl rfl (fun _ _ => r_nil rfl) ?_
  refine OW.val hS rfl rfl rfl (fun _ _ => r_index_arr rfl rfl arr57 (by decide) (by decide)) ?_
  refine OW.eff rfl rfl rfl (r_storeB rfl rfl one43 rfl hB5.drew (by omega)) (((hB5.drew.set (i := so + (8 + 5)) (.int .u32 (bw .xor .u32 (v (8 + 5)) (s 5))) (by omega)).cell (i := so + 5) (by omega)).trans (by rw [upd_other _ _ (by omega), put_out _ _ (by omega), hcs 5 (by decide)])) ?_
  clear hS
  refine OW.nil (CW.fresh (rcFr sb so mb mo v) ⟨rfl, rfl, rfl, rfl, rfl, rfl, rfl, rfl, rfl, rfl, rfl, rfl, rfl, rfl, rfl, rfl, rfl, rfl, trivial⟩ (φ := fun w' => Mod [sb] w w' ∧ Blk w' sb n (put c (so + 8) 6 (fun i => .int .u32 (bw .xor .u32 (v (8 + i)) (s i)))) te) ⟨(hM5.trans (Mod.drew [] _) (by simp)).trans (Mod.set _ sb (so + (8 + 5)) _) (by simp), (congrArg (fun c => Blk _ sb n c te) (put_snoc c (so + 8) 5 (fun i => .int .u32 (bw .xor .u32 (v (8 + i)) (s i))) (.int .u32 (bw .xor .u32 (v (8 + 5)) (s 5))) rfl)).mp ((congrArg (fun o => Blk _ sb n (upd (put c (so + 8) 5 (fun i => .int .u32 (bw .xor .u32 (v (8 + i)) (s i)))) o (.int .u32 (bw .xor .u32 (v (8 + 5)) (s 5)))) te) (show so + (8 + 5) = so + 8 + 5 by omega)).mp (hB5.drew.set (i := so + (8 + 5)) (.int .u32 (bw .xor .u32 (v (8 + 5)) (s 5))) (by omega)))⟩ ?_)
  clear J hB5 hM5
  rintro J w6 ⟨hM6, hB6⟩
  have hS : w6.drew.cell? ⟨sb, so + 6, none⟩ = some (.int .u32 (s 6)) := (hB6.drew.cell (by omega)).trans (by rw [put_out _ _ (by omega), hcs 6 (by decide)])
  refine CW.seq (CW.drawn (fun w => w.cell? ⟨sb, so + 6, none⟩ = some (.int .u32 (s 6))) [(0, true), (1, true), (2, true), (3, true), (4, true), (5, true), (6, true), (7, true), (8, true), (9, false)] mixed (by kernel_rfl) (by kernel_rfl) ?_)
  refine OW.val hS rfl rfl rfl (fun _ _ => r_move) ?_
  refine OW.val hS rfl rfl rfl (fun _ _ => r_move) ?_
  refine OW.val hS rfl rfl rfl (fun _ _ => r_move) ?_
  refine OW.val hS rfl rfl rfl (fun _ _ => r_nil rfl) ?_
  refine OW.val hS rfl rfl rfl (fun _ _ => r_index_arr rfl rfl arr57 (by decide) (by decide)) ?_
  refine OW.val hS rfl rfl rfl (fun _ hS => r_load rfl one43 hS) ?_
  refine OW.val hS rfl rfl rfl (fun _ _ => r_xor rfl rfl) ?_
  refine OW.val hS rfl rfl rfl (fun _ _ => r_nil rfl) ?_
  refine OW.val hS rfl rfl rfl (fun _ _ => r_index_arr rfl rfl arr57 (by decide) (by decide)) ?_
  refine OW.eff rfl rfl rfl (r_storeB rfl rfl one43 rfl hB6.drew (by omega)) (((hB6.drew.set (i := so + (8 + 6)) (.int .u32 (bw .xor .u32 (v (8 + 6)) (s 6))) (by omega)).cell (i := so + 6) (by omega)).trans (by rw [upd_other _ _ (by omega), put_out _ _ (by omega), hcs 6 (by decide)])) ?_
  clear hS
  refine OW.nil (CW.fresh (rcFr sb so mb mo v) ⟨rfl, rfl, rfl, rfl, rfl, rfl, rfl, rfl, rfl, rfl, rfl, rfl, rfl, rfl, rfl, rfl, rfl, rfl, trivial⟩ (φ := fun w' => Mod [sb] w w' ∧ Blk w' sb n (put c (so + 8) 7 (fun i => .int .u32 (bw .xor .u32 (v (8 + i)) (s i)))) te) ⟨(hM6.trans (Mod.drew [] _) (by simp)).trans (Mod.set _ sb (so + (8 + 6)) _) (by simp), (congrArg (fun c => Blk _ sb n c te) (put_snoc c (so + 8) 6 (fun i => .int .u32 (bw .xor .u32 (v (8 + i)) (s i))) (.int .u32 (bw .xor .u32 (v (8 + 6)) (s 6))) rfl)).mp ((congrArg (fun o => Blk _ sb n (upd (put c (so + 8) 6 (fun i => .int .u32 (bw .xor .u32 (v (8 + i)) (s i)))) o (.int .u32 (bw .xor .u32 (v (8 + 6)) (s 6)))) te) (show so + (8 + 6) = so + 8 + 6 by omega)).mp (hB6.drew.set (i := so + (8 + 6)) (.int .u32 (bw .xor .u32 (v (8 + 6)) (s 6))) (by omega)))⟩ ?_)
  clear J hB6 hM6
  rintro J w7 ⟨hM7, hB7⟩
  have hS : w7.drew.cell? ⟨sb, so + 7, none⟩ = some (.int .u32 (s 7)) := (hB7.drew.cell (by omega)).trans (by rw [put_out _ _ (by omega), hcs 7 (by decide)])
  refine CW.seq (CW.drawn (fun w => w.cell? ⟨sb, so + 7, none⟩ = some (.int .u32 (s 7))) [(0, true), (1, true), (2, true), (3, true), (4, true), (5, true), (6, true), (7, true), (8, true), (9, false)] mixed (by kernel_rfl) (by kernel_rfl) ?_)
  refine OW.val hS rfl rfl rfl (fun _ _ => r_move) ?_
  refine OW.val hS rfl rfl rfl (fun _ _ => r_move) ?_
  refine OW.val hS rfl rfl rfl (fun _ _ => r_move) ?_
  refine OW.val hS rfl rfl rfl (fun _ _ => r_nil rfl) ?_
  refine OW.val hS rfl rfl rfl (fun _ _ => r_index_arr rfl rfl arr57 (by decide) (by decide)) ?_
  refine OW.val hS rfl rfl rfl (fun _ hS => r_load rfl one43 hS) ?_
  refine OW.val hS rfl rfl rfl (fun _ _ => r_xor rfl rfl) ?_
  refine OW.val hS rfl rfl rfl (fun _ _ => r_nil rfl) ?_
  refine OW.val hS rfl rfl rfl (fun _ _ => r_index_arr rfl rfl arr57 (by decide) (by decide)) ?_
  refine OW.eff rfl rfl rfl (r_storeB rfl rfl one43 rfl hB7.drew (by omega)) (((hB7.drew.set (i := so + (8 + 7)) (.int .u32 (bw .xor .u32 (v (8 + 7)) (s 7))) (by omega)).cell (i := so + 7) (by omega)).trans (by rw [upd_other _ _ (by omega), put_out _ _ (by omega), hcs 7 (by decide)])) ?_
  clear hS
  refine OW.nil (CW.fresh (rcFr sb so mb mo v) ⟨rfl, rfl, rfl, rfl, rfl, rfl, rfl, rfl, rfl, rfl, rfl, rfl, rfl, rfl, rfl, rfl, rfl, rfl, trivial⟩ (φ := fun w' => Mod [sb] w w' ∧ Blk w' sb n (put c (so + 8) 8 (fun i => .int .u32 (bw .xor .u32 (v (8 + i)) (s i)))) te) ⟨(hM7.trans (Mod.drew [] _) (by simp)).trans (Mod.set _ sb (so + (8 + 7)) _) (by simp), (congrArg (fun c => Blk _ sb n c te) (put_snoc c (so + 8) 7 (fun i => .int .u32 (bw .xor .u32 (v (8 + i)) (s i))) (.int .u32 (bw .xor .u32 (v (8 + 7)) (s 7))) rfl)).mp ((congrArg (fun o => Blk _ sb n (upd (put c (so + 8) 7 (fun i => .int .u32 (bw .xor .u32 (v (8 + i)) (s i)))) o (.int .u32 (bw .xor .u32 (v (8 + 7)) (s 7)))) te) (show so + (8 + 7) = so + 8 + 7 by omega)).mp (hB7.drew.set (i := so + (8 + 7)) (.int .u32 (bw .xor .u32 (v (8 + 7)) (s 7))) (by omega)))⟩ ?_)
  clear J hB7 hM7
  rintro J w8 ⟨hM8, hB8⟩
  exact h J w8 hM8 hB8
set_option maxHeartbeats 4000000 in
set_option maxRecDepth 10000 in
theorem rc_tail (k : Cont) (J : Env) (sb so mb mo n : Nat) (c8 : Nat → Value) (te : TypeId) (v : Nat → Int) (w w8 : World) (ho : so + 16 ≤ n) (hB : Blk w8 sb n c8 te) (hM8 : Mod [sb] w w8)
    (h : ∀ E w', Mod [sb] w w' → Blk w' sb n (put c8 so 8 (fun i => .int .u32 (bw .xor .u32 (v i) (v (8 + i))))) te → k.nrm E w') :
    CW Tryd.prog 1212 (codeTl 68 rcBody) k (tab J (rcFr sb so mb mo v)) w8 := by
  have hC0 : Blk w8 sb n (put c8 so 0 (fun i => .int .u32 (bw .xor .u32 (v i) (v (8 + i))))) te := by rw [put_zero]; exact hB
  refine CW.seq (CW.region ?_)
  refine LW.val rfl rfl (r_move) ?_
  refine LW.val rfl rfl (r_move) ?_
  refine LW.val rfl rfl (r_move) ?_
  refine LW.val rfl rfl (r_xor rfl rfl) ?_
  refine LW.val rfl rfl (r_nil rfl) ?_
  refine LW.val rfl rfl (r_index_arr rfl rfl arr57 (by decide) (by decide)) ?_
  refine LW.eff rfl rfl (r_storeB rfl rfl one43 rfl hC0 (by omega)) ?_
  refine LW.nil (CW.fresh (rcFr sb so mb mo v) ⟨rfl, rfl, rfl, rfl, rfl, rfl, rfl, rfl, rfl, rfl, rfl, rfl, rfl, rfl, rfl, rfl, rfl, rfl, trivial⟩ (φ := fun w' => Mod [sb] w w' ∧ Blk w' sb n (put c8 so 1 (fun i => .int .u32 (bw .xor .u32 (v i) (v (8 + i))))) te) ⟨hM8.trans (Mod.set _ sb (so + 0) _) (by simp), (congrArg (fun c => Blk _ sb n c te) (put_snoc c8 so 0 (fun i => .int .u32 (bw .xor .u32 (v i) (v (8 + i)))) (.int .u32 (bw .xor .u32 (v 0) (v (8 + 0)))) rfl)).mp (hC0.set (i := so + 0) (.int .u32 (bw .xor .u32 (v 0) (v (8 + 0)))) (by omega))⟩ ?_)
  clear J hC0 hM8
  rintro J w9 ⟨hM9, hC1⟩
  refine CW.seq (CW.region ?_)
  refine LW.val rfl rfl (r_move) ?_
  refine LW.val rfl rfl (r_move) ?_
  refine LW.val rfl rfl (r_move) ?_
  refine LW.val rfl rfl (r_xor rfl rfl) ?_
  refine LW.val rfl rfl (r_nil rfl) ?_
  refine LW.val rfl rfl (r_index_arr rfl rfl arr57 (by decide) (by decide)) ?_
  refine LW.eff rfl rfl (r_storeB rfl rfl one43 rfl hC1 (by omega)) ?_
  refine LW.nil (CW.fresh (rcFr sb so mb mo v) ⟨rfl, rfl, rfl, rfl, rfl, rfl, rfl, rfl, rfl, rfl, rfl, rfl, rfl, rfl, rfl, rfl, rfl, rfl, trivial⟩ (φ := fun w' => Mod [sb] w w' ∧ Blk w' sb n (put c8 so 2 (fun i => .int .u32 (bw .xor .u32 (v i) (v (8 + i))))) te) ⟨hM9.trans (Mod.set _ sb (so + 1) _) (by simp), (congrArg (fun c => Blk _ sb n c te) (put_snoc c8 so 1 (fun i => .int .u32 (bw .xor .u32 (v i) (v (8 + i)))) (.int .u32 (bw .xor .u32 (v 1) (v (8 + 1)))) rfl)).mp (hC1.set (i := so + 1) (.int .u32 (bw .xor .u32 (v 1) (v (8 + 1)))) (by omega))⟩ ?_)
  clear J hC1 hM9
  rintro J w10 ⟨hM10, hC2⟩
  refine CW.seq (CW.region ?_)
  refine LW.val rfl rfl (r_move) ?_
  refine LW.val rfl rfl (r_move) ?_
  refine LW.val rfl rfl (r_move) ?_
  refine LW.val rfl rfl (r_xor rfl rfl) ?_
  refine LW.val rfl rfl (r_nil rfl) ?_
  refine LW.val rfl rfl (r_index_arr rfl rfl arr57 (by decide) (by decide)) ?_
  refine LW.eff rfl rfl (r_storeB rfl rfl one43 rfl hC2 (by omega)) ?_
  refine LW.nil (CW.fresh (rcFr sb so mb mo v) ⟨rfl, rfl, rfl, rfl, rfl, rfl, rfl, rfl, rfl, rfl, rfl, rfl, rfl, rfl, rfl, rfl, rfl, rfl, trivial⟩ (φ := fun w' => Mod [sb] w w' ∧ Blk w' sb n (put c8 so 3 (fun i => .int .u32 (bw .xor .u32 (v i) (v (8 + i))))) te) ⟨hM10.trans (Mod.set _ sb (so + 2) _) (by simp), (congrArg (fun c => Blk _ sb n c te) (put_snoc c8 so 2 (fun i => .int .u32 (bw .xor .u32 (v i) (v (8 + i)))) (.int .u32 (bw .xor .u32 (v 2) (v (8 + 2)))) rfl)).mp (hC2.set (i := so + 2) (.int .u32 (bw .xor .u32 (v 2) (v (8 + 2)))) (by omega))⟩ ?_)
  clear J hC2 hM10
  rintro J w11 ⟨hM11, hC3⟩
  refine CW.seq (CW.region ?_)
  refine LW.val rfl rfl (r_move) ?_
  refine LW.val rfl rfl (r_move) ?_
  refine LW.val rfl rfl (r_move) ?_
  refine LW.val rfl rfl (r_xor rfl rfl) ?_
  refine LW.val rfl rfl (r_nil rfl) ?_
  refine LW.val rfl rfl (r_index_arr rfl rfl arr57 (by decide) (by decide)) ?_
  refine LW.eff rfl rfl (r_storeB rfl rfl one43 rfl hC3 (by omega)) ?_
  refine LW.nil (CW.fresh (rcFr sb so mb mo v) ⟨rfl, rfl, rfl, rfl, rfl, rfl, rfl, rfl, rfl, rfl, rfl, rfl, rfl, rfl, rfl, rfl, rfl, rfl, trivial⟩ (φ := fun w' => Mod [sb] w w' ∧ Blk w' sb n (put c8 so 4 (fun i => .int .u32 (bw .xor .u32 (v i) (v (8 + i))))) te) ⟨hM11.trans (Mod.set _ sb (so + 3) _) (by simp), (congrArg (fun c => Blk _ sb n c te) (put_snoc c8 so 3 (fun i => .int .u32 (bw .xor .u32 (v i) (v (8 + i)))) (.int .u32 (bw .xor .u32 (v 3) (v (8 + 3)))) rfl)).mp (hC3.set (i := so + 3) (.int .u32 (bw .xor .u32 (v 3) (v (8 + 3)))) (by omega))⟩ ?_)
  clear J hC3 hM11
  rintro J w12 ⟨hM12, hC4⟩
  refine CW.seq (CW.region ?_)
  refine LW.val rfl rfl (r_move) ?_
  refine LW.val rfl rfl (r_move) ?_
  refine LW.val rfl rfl (r_move) ?_
  refine LW.val rfl rfl (r_xor rfl rfl) ?_
  refine LW.val rfl rfl (r_nil rfl) ?_
  refine LW.val rfl rfl (r_index_arr rfl rfl arr57 (by decide) (by decide)) ?_
  refine LW.eff rfl rfl (r_storeB rfl rfl one43 rfl hC4 (by omega)) ?_
  refine LW.nil (CW.fresh (rcFr sb so mb mo v) ⟨rfl, rfl, rfl, rfl, rfl, rfl, rfl, rfl, rfl, rfl, rfl, rfl, rfl, rfl, rfl, rfl, rfl, rfl, trivial⟩ (φ := fun w' => Mod [sb] w w' ∧ Blk w' sb n (put c8 so 5 (fun i => .int .u32 (bw .xor .u32 (v i) (v (8 + i))))) te) ⟨hM12.trans (Mod.set _ sb (so + 4) _) (by simp), (congrArg (fun c => Blk _ sb n c te) (put_snoc c8 so 4 (fun i => .int .u32 (bw .xor .u32 (v i) (v (8 + i)))) (.int .u32 (bw .xor .u32 (v 4) (v (8 + 4)))) rfl)).mp (hC4.set (i := so + 4) (.int .u32 (bw .xor .u32 (v 4) (v (8 + 4)))) (by omega))⟩ ?_)
  clear J hC4 hM12
  rintro J w13 ⟨hM13, hC5⟩
  refine CW.seq (CW.region ?_)
  refine LW.val rfl rfl (r_move) ?_
  refine LW.val rfl rfl (r_move) ?_
  refine LW.val rfl rfl (r_move) ?_
  refine LW.val rfl rfl (r_xor rfl rfl) ?_
  refine LW.val rfl rfl (r_nil rfl) ?_
  refine LW.val rfl rfl (r_index_arr rfl rfl arr57 (by decide) (by decide)) ?_
  refine LW.eff rfl rfl (r_storeB rfl rfl one43 rfl hC5 (by omega)) ?_
  refine LW.nil (CW.fresh (rcFr sb so mb mo v) ⟨rfl, rfl, rfl, rfl, rfl, rfl, rfl, rfl, rfl, rfl, rfl, rfl, rfl, rfl, rfl, rfl, rfl, rfl, trivial⟩ (φ := fun w' => Mod [sb] w w' ∧ Blk w' sb n (put c8 so 6 (fun i => .int .u32 (bw .xor .u32 (v i) (v (8 + i))))) te) ⟨hM13.trans (Mod.set _ sb (so + 5) _) (by simp), (congrArg (fun c => Blk _ sb n c te) (put_snoc c8 so 5 (fun i => .int .u32 (bw .xor .u32 (v i) (v (8 + i)))) (.int .u32 (bw .xor .u32 (v 5) (v (8 + 5)))) rfl)).mp (hC5.set (i := so + 5) (.int .u32 (bw .xor .u32 (v 5) (v (8 + 5)))) (by omega))⟩ ?_)
  clear J hC5 hM13
  rintro J w14 ⟨hM14, hC6⟩
  refine CW.seq (CW.region ?_)
  refine LW.val rfl rfl (r_move) ?_
  refine LW.val rfl rfl (r_move) ?_
  refine LW.val rfl rfl (r_move) ?_
  refine LW.val rfl rfl (r_xor rfl rfl) ?_
  refine LW.val rfl rfl (r_nil rfl) ?_
  refine LW.val rfl rfl (r_index_arr rfl rfl arr57 (by decide) (by decide)) ?_
  refine LW.eff rfl rfl (r_storeB rfl rfl one43 rfl hC6 (by omega)) ?_
  refine LW.nil (CW.fresh (rcFr sb so mb mo v) ⟨rfl, rfl, rfl, rfl, rfl, rfl, rfl, rfl, rfl, rfl, rfl, rfl, rfl, rfl, rfl, rfl, rfl, rfl, trivial⟩ (φ := fun w' => Mod [sb] w w' ∧ Blk w' sb n (put c8 so 7 (fun i => .int .u32 (bw .xor .u32 (v i) (v (8 + i))))) te) ⟨hM14.trans (Mod.set _ sb (so + 6) _) (by simp), (congrArg (fun c => Blk _ sb n c te) (put_snoc c8 so 6 (fun i => .int .u32 (bw .xor .u32 (v i) (v (8 + i)))) (.int .u32 (bw .xor .u32 (v 6) (v (8 + 6)))) rfl)).mp (hC6.set (i := so + 6) (.int .u32 (bw .xor .u32 (v 6) (v (8 + 6)))) (by omega))⟩ ?_)
  clear J hC6 hM14
  rintro J w15 ⟨hM15, hC7⟩
  refine CW.region ?_
  refine LW.val rfl rfl (r_move) ?_
  refine LW.val rfl rfl (r_move) ?_
  refine LW.val rfl rfl (r_move) ?_
  refine LW.val rfl rfl (r_xor rfl rfl) ?_
  refine LW.val rfl rfl (r_nil rfl) ?_
  refine LW.val rfl rfl (r_index_arr rfl rfl arr57 (by decide) (by decide)) ?_
  refine LW.eff rfl rfl (r_storeB rfl rfl one43 rfl hC7 (by omega)) ?_
  exact LW.nil (h _ _ (hM15.trans (Mod.set _ sb (so + 7) _) (by simp)) ((congrArg (fun c => Blk _ sb n c te) (put_snoc c8 so 7 (fun i => .int .u32 (bw .xor .u32 (v i) (v (8 + i)))) (.int .u32 (bw .xor .u32 (v 7) (v (8 + 7)))) rfl)).mp (hC7.set (i := so + 7) (.int .u32 (bw .xor .u32 (v 7) (v (8 + 7)))) (by omega))))
theorem rc_any (sb so mb mo n : Nat) (c : Nat → Value) (te : TypeId) (s m : Nat → Int) (w : World) (hs : Rd w sb so 16 .u32 s) (hm : Rd w mb mo 16 .u32 m) (hB : Blk w sb n c te) (ho : so + 16 ≤ n) :
    Calls Tryd.prog 47 #[.pointer (some ⟨sb, so, none⟩), .pointer (some ⟨mb, mo, none⟩)] w fun e w' => e = .returned (.tuple #[]) ∧ Mod [sb] w w' ∧ Blk w' sb n (put c so 16 (fun i => .int .u32 (rcF s m i))) te := by
  refine calls_of_CW (l := [_, _]) (N := 1212) Tryd.func47 rfl rfl rfl ?_
  have hcs : ∀ i, i < 16 → c (so + i) = .int .u32 (s i) := fun i hi => by have h1 := hs i hi; rw [hB.cell (by omega)] at h1; exact Option.some.inj h1
  refine rc_head _ sb so mb mo s w hs fun J q => ?_
  refine rc_rnd0 _ J sb so mb mo q s m w hm fun J q => ?_
  refine rc_rnd1 _ J sb so mb mo q _ m w hm fun J q => ?_
  refine rc_rnd2 _ J sb so mb mo q _ m w hm fun J q => ?_
  refine rc_rnd3 _ J sb so mb mo q _ m w hm fun J q => ?_
  refine rc_rnd4 _ J sb so mb mo q _ m w hm fun J q => ?_
  refine rc_rnd5 _ J sb so mb mo q _ m w hm fun J q => ?_
  refine rc_rnd6 _ J sb so mb mo q _ m w hm fun J q => ?_
  refine rc_mid _ J sb so mb mo n c te s (rcV s m) w _ hcs ho hB ⟨rfl, rfl, rfl, Nat.le_refl _, fun _ _ _ => rfl⟩ fun J w' hM' hB' => ?_
  refine rc_tail _ J sb so mb mo n _ te (rcV s m) w _ ho hB' hM' fun E w' hM' hB' => ⟨_, RetV.none rfl, rfl, hM', ?_⟩
  rw [put_two c so 8 8 _ _ (fun i => .int .u32 (rcF s m i)) (fun i hi => by simp only [rcF, if_pos hi, Nat.add_comm]) (fun i hi => by simp only [rcF, if_neg (show ¬ 8 + i < 8 by omega), Nat.add_sub_cancel_left])] at hB'
  exact hB'
end Go.Proofs.YtfaopfaghnefdaaDoor
