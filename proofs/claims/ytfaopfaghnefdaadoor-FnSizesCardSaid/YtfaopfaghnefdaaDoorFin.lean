/- finalizeDigest. Conditions: a sound hasher, a new digest in another block, the table of TrailingZeros64 in a third. -/
import Derived.Test.YtfaopfaghnefdaaDoorTz
namespace Go.Proofs.YtfaopfaghnefdaaDoor
open Go
theorem en19 : Enters Tryd.prog 19 := ⟨_, Tryd.func19, by kernel_rfl, rfl⟩
theorem s21 {P : Program} {ρ : Operand → Value} {w : World} {dst : Option Tmp} {ty : TypeId} {pos : String} {af : Array Edge} {gd : Option (Nat × Bool)} {x lo hi : Operand} {hb o c len : Nat} (hx : ρ x = .pointer (some ⟨hb, o, none⟩)) (hl : ρ lo = .int .u64 ((c : Nat) : Int)) (hh : ρ hi = .int .u64 ((len : Nat) : Int)) (ht : ArrAt P 52 8192 1) (h1 : c ≤ len) (h2 : len ≤ 8192) (h3 : c < 8192) :
    (execOp ρ ⟨dst, .slice 52 x (some lo) (some hi) none, ty, pos, af, gd⟩).run P w = .ok (.value (.slice (some ⟨hb, o + c, none⟩) (len - c) (8192 - c))) w := by
  rw [r_arr_lh hx hl hh ht (by omega) (by omega) (by omega) (by omega)]; simp
theorem s11 {P : Program} {ρ : Operand → Value} {w : World} {dst : Option Tmp} {ty : TypeId} {pos : String} {af : Array Edge} {gd : Option (Nat × Bool)} {x lo hi : Operand} {hb o c len : Nat} (hx : ρ x = .pointer (some ⟨hb, o, none⟩)) (hl : ρ lo = .int .u64 ((c * 1024 : Nat) : Int)) (hh : ρ hi = .int .u64 ((len : Nat) : Int)) (ht : ArrAt P 52 8192 1) (h1 : c * 1024 ≤ len) (h2 : len ≤ 8192) (h3 : c * 1024 < 8192) :
    (execOp ρ ⟨dst, .slice 52 x (some lo) (some hi) none, ty, pos, af, gd⟩).run P w = .ok (.value (.slice (some ⟨hb, o + 1024 * c, none⟩) (len - 1024 * c) (8192 - 1024 * c))) w := by
  rw [s21 hx hl hh ht h1 h2 h3, Nat.mul_comm c 1024]
def f1C (K B : Nat → Int) (len ch : Nat) : Nat → Int := if len ≤ 64 then K else hfC B K ch 0 len
def f1n (len : Nat) : Nat := if len ≤ 1024 then 0 else (len - 1) / 1024
def f1S (K B : Nat → Int) (s : CS) (len ch : Nat) : CS := if len ≤ 1024 then s else pushNF 0 K (hfO B K ch 0 len) s ((len - 1) / 1024)
def f1B (B : Nat → Int) (len : Nat) : Nat → Int := if len ≤ 1024 then B else bset B 0 (len - 1024 * ((len - 1) / 1024)) (fun i => B (1024 * ((len - 1) / 1024) + i))
def tlFull (n : Nat) : Prop := 0 < n ∧ n % 64 = 0
instance (n : Nat) : Decidable (tlFull n) := inferInstanceAs (Decidable (_ ∧ _))
def tlFl (n : Nat) : Int := if n ≤ 64 then bw .or .u32 (bw .or .u32 0 2) 1 else bw .or .u32 0 2
def tlBl (n : Nat) : Nat := if tlFull n then 64 else n % 64
def tlBa (n : Nat) : Nat := if tlFull n then n / 64 * 64 - 64 else n / 64 * 64
def tlD (C : Nat → Int) (n ch : Nat) (B : Nat → Int) : DS := { DS0 with ctr := ch, ch := C, bl := b2w (fun j => if j < n - tlBa n then B (tlBa n + j) else 0), blen := ((tlBl n : Nat) : Int), fl := tlFl n }
def tlF (K T C : Nat → Int) (s : CS) (n ch : Nat) (B : Nat → Int) : DS :=
  { mgF K (fl0 0 K s) T (fl0 0 K s).occ (tlD C n ch B) with fl := bw .or .u32 (mgF K (fl0 0 K s) T (fl0 0 K s).occ (tlD C n ch B)).fl 8 }
def finF (K B T : Nat → Int) (s : CS) (len ch : Nat) : DS := if ch = 0 ∧ len ≤ 1024 then caF K B len else tlF K T (f1C K B len ch) (f1S K B s len ch) (len - 1024 * f1n len) (ch + f1n len) (f1B B len)
theorem finF_ctr (K B T : Nat → Int) (s : CS) (len ch : Nat) : (finF K B T s len ch).ctr ≤ ch + f1n len ∧ (finF K B T s len ch).bn = 0 := by
  unfold finF; split
  · exact ⟨Nat.zero_le _, rfl⟩
  · exact mgF_ctr _ _ _ _ (tlD (f1C K B len ch) (len - 1024 * f1n len) (ch + f1n len) (f1B B len))
set_option maxHeartbeats 8000000 in
theorem fin_any (hb db len ch : Nat) (K B T : Nat → Int) (s : CS) (w : World) (hB : Blk w hb 8854 (hh len ch K B s) 56) (hD : Blk w db 44 (dg DS0) 59) (hT : Rd w 1 0 64 .u8 T) (hne : hb ≠ db) (h1h : hb ≠ 1) (h1d : db ≠ 1)
    (hs : s.ok) (h8 : s.bufn < 8) (hl : len ≤ 8192) (hch : ch < 4294967296) :
    Calls Tryd.prog 19 #[.pointer (some ⟨hb, 1, none⟩), .pointer (some ⟨db, 0, none⟩)] w fun e w' => e = .returned (.tuple #[]) ∧ Mod [hb, db] w w' ∧ Blk w' db 44 (dg (finF K B T s len ch)) 59 := by
  refine calls_of_CW (l := [_, _]) (N := 304) Tryd.func19 rfl rfl rfl ?_
  refine CW.seq (CW.seq (CW.cut [(0, .pointer (some ⟨hb, 1, none⟩)), (1, .pointer (some ⟨db, 0, none⟩)), (22, .bool (decide (ch = 0 ∧ len ≤ 1024)))] (fun w' => w' = w) ?_ ?_))
  · by_cases h0 : ch = 0
    · refine CW.region ?_
      refine LW.val rfl rfl (r_move) ?_
      refine LW.val rfl rfl (r_nil rfl) ?_
      refine LW.val rfl rfl (r_field rfl fa54_1) ?_
      refine LW.val rfl rfl (r_load (a := ⟨hb, 2, none⟩) (v := .int .u64 ((ch : Nat) : Int)) rfl one45 (hB.cell (by decide))) ?_
      refine LW.val rfl rfl (r_eqlE rfl rfl (q := true) ((eq0 _).trans (decide_eq_true h0))) ?_
      refine LW.val rfl rfl (r_move) ?_
      refine LW.gval (gyes rfl rfl rfl rfl rfl) rfl (r_move) ?_
      refine LW.gval (gyes rfl rfl rfl rfl rfl) rfl (r_nil rfl) ?_
      refine LW.gval (gyes rfl rfl rfl rfl rfl) rfl (r_field rfl fa54_0) ?_
      refine LW.gval (gyes rfl rfl rfl rfl rfl) rfl (r_load (a := ⟨hb, 1, none⟩) (v := .int .u64 ((len : Nat) : Int)) rfl one45 (hB.cell (by decide))) ?_
      refine LW.gval (gyes rfl rfl rfl rfl rfl) rfl (r_leqE rfl rfl (q := decide (len ≤ 1024)) (decide_eq_decide.2 (by omega))) ?_
      refine LW.val rfl rfl (r_pick rfl) ?_
      exact LW.nil ⟨⟨rfl, rfl, congrArg Value.bool (decide_eq_decide.2 ⟨fun h => ⟨h0, h⟩, fun h => h.2⟩), trivial⟩, rfl⟩
    · refine CW.region ?_
      refine LW.val rfl rfl (r_move) ?_
      refine LW.val rfl rfl (r_nil rfl) ?_
      refine LW.val rfl rfl (r_field rfl fa54_1) ?_
      refine LW.val rfl rfl (r_load (a := ⟨hb, 2, none⟩) (v := .int .u64 ((ch : Nat) : Int)) rfl one45 (hB.cell (by decide))) ?_
      refine LW.val rfl rfl (r_eqlE rfl rfl (q := false) ((eq0 _).trans (decide_eq_false h0))) ?_
      refine LW.val rfl rfl (r_move) ?_
      refine LW.pass (gno rfl rfl rfl rfl rfl) rfl ?_
      refine LW.pass (gno rfl rfl rfl rfl rfl) rfl ?_
      refine LW.pass (gno rfl rfl rfl rfl rfl) rfl ?_
      refine LW.pass (gno rfl rfl rfl rfl rfl) rfl ?_
      refine LW.pass (gno rfl rfl rfl rfl rfl) rfl ?_
      refine LW.val rfl rfl (r_pick rfl) ?_
      exact LW.nil ⟨⟨rfl, rfl, congrArg Value.bool (decide_eq_false (fun h => h0 h.1)).symm, trivial⟩, rfl⟩
  rintro J w0 hw0
  rw [hw0]
  clear hw0 w0
  by_cases hA : ch = 0 ∧ len ≤ 1024
  · first | refine CW.cond_t (congrArg Value.bool (decide_eq_true hA)) ?_ | refine CW.seq (CW.cond_t (congrArg Value.bool (decide_eq_true hA)) ?_)
    have hS : (fun w => w.cell? ⟨hb, 1, none⟩ = some (.int .u64 ((len : Nat) : Int)) ∧ w.cell? ⟨hb, 3, none⟩ = some (.int .u32 0) ∧ ∀ j, j < 8 → w.cell? ⟨hb, 4 + j, none⟩ = some (.int .u32 (K j))) w.drew := ⟨hB.drew.cell (i := 1) (by decide), hB.drew.cell (i := 3) (by decide), fun j hj => by rw [hB.drew.cell (i := 4 + j) (by omega), hh_key _ _ _ _ _ hj]⟩
    refine CW.seq (CW.drawn (fun w => w.cell? ⟨hb, 1, none⟩ = some (.int .u64 ((len : Nat) : Int)) ∧ w.cell? ⟨hb, 3, none⟩ = some (.int .u32 0) ∧ ∀ j, j < 8 → w.cell? ⟨hb, 4 + j, none⟩ = some (.int .u32 (K j))) [(0, true), (1, true), (2, true), (3, true), (4, true), (5, true), (6, true), (7, true), (8, true), (9, true), (10, true), (11, true), (12, true), (13, true), (14, true), (15, true), (16, true), (17, false)] mixed (by kernel_rfl) (by kernel_rfl) ?_)
    refine OW.val hS rfl rfl rfl (fun _ _ => r_move) ?_
    refine OW.val hS rfl rfl rfl (fun _ _ => r_move) ?_
    refine OW.val hS rfl rfl rfl (fun _ _ => r_nil rfl) ?_
    refine OW.val hS rfl rfl rfl (fun _ _ => r_field rfl fa54_5) ?_
    refine OW.val hS rfl rfl rfl (fun _ _ => r_move) ?_
    refine OW.val hS rfl rfl rfl (fun _ _ => r_nil rfl) ?_
    refine OW.val hS rfl rfl rfl (fun _ _ => r_field rfl fa54_0) ?_
    refine OW.val hS rfl rfl rfl (fun _ hS => r_load (a := ⟨hb, 1, none⟩) rfl one45 hS.1) ?_
    refine OW.val hS rfl rfl rfl (fun _ _ => r_arr_h (n := 8192) (es := 1) rfl rfl arr52 (by omega) (by omega)) ?_
    refine OW.val hS rfl rfl rfl (fun _ _ => r_move) ?_
    refine OW.val hS rfl rfl rfl (fun _ _ => r_nil rfl) ?_
    refine OW.val hS rfl rfl rfl (fun _ _ => r_field rfl fa54_2) ?_
    refine OW.val hS rfl rfl rfl (fun _ hS => r_load (a := ⟨hb, 3, none⟩) rfl one43 hS.2.1) ?_
    refine OW.val hS rfl rfl rfl (fun _ _ => r_move) ?_
    refine OW.val hS rfl rfl rfl (fun _ _ => r_nil rfl) ?_
    refine OW.val hS rfl rfl rfl (fun _ _ => r_field rfl fa54_3) ?_
    refine OW.val hS rfl rfl rfl (fun _ hS => r_loadA (m := 8) (f := fun j => .int .u32 (K j)) rfl agg44 hS.2.2) ?_
    refine OW.call rfl rfl rfl (e_call en25) ?_
    refine (call_any db hb len K B _ hD.drew (hB.drew.rd (by decide) (fun i hi => hh_buf _ _ _ _ _ i)) hne hA.2).mono ?_
    rintro e w1 ⟨rfl, hM1, hD1⟩
    have hB1 := hM1.blk hB.drew (by simpa using hne)
    refine ⟨_, rfl, ⟨hB1.cell (i := 1) (by decide), hB1.cell (i := 3) (by decide), fun j hj => by rw [hB1.cell (i := 4 + j) (by omega), hh_key _ _ _ _ _ hj]⟩, ?_⟩
    refine OW.nil (CW.ret ⟨_, RetV.none rfl, rfl, ((Mod.drew [db] w).trans hM1 (by simp)).more (fun k hk => Or.inl (by simp at hk; simp [hk])), by rw [finF, if_pos hA]; exact hD1⟩)
  first | refine CW.cond_f (congrArg Value.bool (decide_eq_false hA)) (CW.skip ?_) | refine CW.seq (CW.cond_f (congrArg Value.bool (decide_eq_false hA)) (CW.skip ?_))
  have hFF : finF K B T s len ch = tlF K T (f1C K B len ch) (f1S K B s len ch) (len - 1024 * f1n len) (ch + f1n len) (f1B B len) := if_neg hA
  rw [hFF]
  clear hFF hA
  first | refine CW.seq (CW.region ?_) | refine CW.seq (CW.seq (CW.region ?_))
  refine LW.val rfl rfl (r_move) ?_
  refine LW.val rfl rfl (r_move) ?_
  refine LW.val rfl rfl (r_nil rfl) ?_
  refine LW.val rfl rfl (r_field rfl fa54_3) ?_
  refine LW.val rfl rfl (r_loadA (m := 8) (f := fun j => .int .u32 (K j)) rfl agg44 (fun j hj => by rw [hB.cell (i := 4 + j) (by omega), hh_key _ _ _ _ _ hj])) ?_
  refine LW.val rfl rfl (r_nil rfl) ?_
  refine LW.val rfl rfl (r_field rfl fa59_1) ?_
  refine LW.eff rfl rfl (r_storeA (m := 8) (f := fun j => .int .u32 (K j)) rfl rfl agg44 (fun _ _ => rfl) hD (by decide)) ?_
  have hMP := Mod.putC w db 1 8 (fun j => .int .u32 (K j))
  have hD1 := hD.putC (o := 1) (m := 8) (f := fun j => .int .u32 (K j)) (by decide)
  rw [dg_setCh] at hD1
  have hB1 := hMP.blk hB (by simpa using hne)
  refine LW.nil ?_
  first | refine CW.seq (CW.region ?_) | refine CW.seq (CW.seq (CW.region ?_))
  refine LW.val rfl rfl (r_move) ?_
  refine LW.val rfl rfl (r_move) ?_
  refine LW.val rfl rfl (r_nil rfl) ?_
  refine LW.val rfl rfl (r_field rfl fa54_2) ?_
  refine LW.val rfl rfl (r_load (a := ⟨hb, 3, none⟩) (v := .int .u32 0) rfl one43 (hB1.cell (by decide))) ?_
  refine LW.val rfl rfl (r_or rfl rfl) ?_
  refine LW.val rfl rfl (r_nil rfl) ?_
  refine LW.val rfl rfl (r_field rfl fa59_4) ?_
  refine LW.eff rfl rfl (r_storeB (i := 26) rfl rfl one43 rfl hD1 (by decide)) ?_
  have hD2 := hD1.set (i := 26) (.int .u32 (bw .or .u32 0 2)) (by decide)
  rw [dg_setFl] at hD2
  have hMS := Mod.set (putC w db 1 8 (fun j => .int .u32 (K j))) db 26 (.int .u32 (bw .or .u32 0 2))
  refine LW.nil (CW.fresh [(0, .pointer (some ⟨hb, 1, none⟩)), (1, .pointer (some ⟨db, 0, none⟩))] ⟨rfl, rfl, trivial⟩ (φ := (fun w' => Mod [hb, db] w w' ∧ Blk w' hb 8854 (hh len ch K B s) 56 ∧ Blk w' db 44 (dg { DS0 with ch := K, fl := bw .or .u32 0 2 }) 59)) ⟨((Mod.refl [hb, db] w).old hMP (by simp)).old hMS (by simp), hMS.blk hB1 (by simpa using hne), hD2⟩ ?_)
  clear hMP hD1 hB1 hD2 hMS J
  rintro J w1 ⟨hM1, hB1, hD1⟩
  first | refine CW.seq (CW.region ?_) | refine CW.seq (CW.seq (CW.region ?_))
  refine LW.val rfl rfl (r_move) ?_
  refine LW.val rfl rfl (r_nil rfl) ?_
  refine LW.val rfl rfl (r_field rfl fa54_0) ?_
  refine LW.val rfl rfl (r_load (a := ⟨hb, 1, none⟩) (v := .int .u64 ((len : Nat) : Int)) rfl one45 (hB1.cell (by decide))) ?_
  refine LW.val rfl rfl (r_gtrE rfl rfl (q := decide (64 < len)) (decide_eq_decide.2 (by omega))) ?_
  refine LW.nil ?_
  refine CW.cut [(0, .pointer (some ⟨hb, 1, none⟩)), (1, .pointer (some ⟨db, 0, none⟩))] (fun w' => Mod [hb, db] w w' ∧ Blk w' hb 8854 (hh (len - 1024 * f1n len) (ch + f1n len) K (f1B B len) (f1S K B s len ch)) 56 ∧ Blk w' db 44 (dg { DS0 with ch := f1C K B len ch, fl := bw .or .u32 0 2 }) 59) ?_ ?_
  · refine CW.cond (b := decide (64 < len)) rfl (fun h => ?_) (fun h => ?_)
    · have h := of_decide_eq_true h
      first | refine CW.seq (CW.region ?_) | refine CW.seq (CW.seq (CW.region ?_))
      refine LW.val rfl rfl (r_alloc zeroF47) ?_
      refine LW.nil ?_
      have hMA := Mod.alloc w1 (.cells (Array.ofFn (n := 64) fun i => (fun _ => Value.int .u32 0) i.val) 47)
      have hX0 := Blk.new w1 64 (fun _ => Value.int .u32 0) 47
      obtain ⟨xb, hxb⟩ : ∃ xb, xb = w1.heap.size := ⟨_, rfl⟩
      rw [← hxb] at hX0 ⊢
      have hHX : hb ≠ xb := hB1.ne (by omega)
      have hDX : db ≠ xb := hD1.ne (by omega)
      have hwx : w.heap.size ≤ xb := by have := hM1.size; omega
      have hB2 := hMA.blk hB1 (by simp)
      have hD2 := hMA.blk hD1 (by simp)
      have hM2 := hM1.none hMA
      obtain ⟨w2, hw2⟩ : ∃ w2, w2 = w1.alloc (.cells (Array.ofFn (n := 64) fun i => (fun _ => Value.int .u32 0) i.val) 47) := ⟨_, rfl⟩
      rw [← hw2] at hX0 hB2 hD2 hM2 ⊢
      clear hw2 hMA
      have hS : (fun w => w.cell? ⟨hb, 1, none⟩ = some (.int .u64 ((len : Nat) : Int)) ∧ w.cell? ⟨hb, 2, none⟩ = some (.int .u64 ((ch : Nat) : Int)) ∧ w.cell? ⟨hb, 3, none⟩ = some (.int .u32 0)) w2.drew := ⟨hB2.drew.cell (i := 1) (by decide), hB2.drew.cell (i := 2) (by decide), hB2.drew.cell (i := 3) (by decide)⟩
      refine CW.seq (CW.drawn (fun w => w.cell? ⟨hb, 1, none⟩ = some (.int .u64 ((len : Nat) : Int)) ∧ w.cell? ⟨hb, 2, none⟩ = some (.int .u64 ((ch : Nat) : Int)) ∧ w.cell? ⟨hb, 3, none⟩ = some (.int .u32 0)) [(0, true), (1, true), (2, true), (3, true), (4, true), (5, true), (6, true), (7, true), (8, true), (9, true), (10, true), (11, true), (12, true), (13, true), (14, true), (15, true), (16, true), (17, true), (18, true), (19, true), (20, true), (21, false)] mixed (by kernel_rfl) (by kernel_rfl) ?_)
      refine OW.val hS rfl rfl rfl (fun _ _ => r_move) ?_
      refine OW.val hS rfl rfl rfl (fun _ _ => r_nil rfl) ?_
      refine OW.val hS rfl rfl rfl (fun _ _ => r_field rfl fa54_5) ?_
      refine OW.val hS rfl rfl rfl (fun _ _ => r_move) ?_
      refine OW.val hS rfl rfl rfl (fun _ _ => r_nil rfl) ?_
      refine OW.val hS rfl rfl rfl (fun _ _ => r_field rfl fa54_0) ?_
      refine OW.val hS rfl rfl rfl (fun _ hS => r_load (a := ⟨hb, 1, none⟩) rfl one45 hS.1) ?_
      refine OW.val hS rfl rfl rfl (fun _ _ => r_move) ?_
      refine OW.val hS rfl rfl rfl (fun _ _ => r_nil rfl) ?_
      refine OW.val hS rfl rfl rfl (fun _ _ => r_field rfl fa54_1) ?_
      refine OW.val hS rfl rfl rfl (fun _ hS => r_load (a := ⟨hb, 2, none⟩) rfl one45 hS.2.1) ?_
      refine OW.val hS rfl rfl rfl (fun _ _ => r_move) ?_
      refine OW.val hS rfl rfl rfl (fun _ _ => r_nil rfl) ?_
      refine OW.val hS rfl rfl rfl (fun _ _ => r_field rfl fa54_2) ?_
      refine OW.val hS rfl rfl rfl (fun _ hS => r_load (a := ⟨hb, 3, none⟩) rfl one43 hS.2.2) ?_
      refine OW.val hS rfl rfl rfl (fun _ _ => r_move) ?_
      refine OW.val hS rfl rfl rfl (fun _ _ => r_nil rfl) ?_
      refine OW.val hS rfl rfl rfl (fun _ _ => r_field rfl fa54_3) ?_
      refine OW.val hS rfl rfl rfl (fun _ _ => r_move) ?_
      refine OW.val hS rfl rfl rfl (fun _ _ => r_nil rfl) ?_
      refine OW.val hS rfl rfl rfl (fun _ _ => r_field rfl fa59_1) ?_
      refine OW.call rfl rfl rfl (e_call en26) ?_
      refine (hashf26_any hb 662 len ch hb 4 xb 0 64 db 1 44 _ _ 47 59 B K 0 _ (hB2.drew.rd (by decide) (fun i hi => hh_buf _ _ _ _ _ i)) (hB2.drew.rd (by decide) (fun i hi => hh_key _ _ _ _ _ hi)) hHX hne hHX hne (Ne.symm hDX) hX0.drew (by decide) hD2.drew (by decide) (by omega) hl (by omega)).mono ?_
      rintro e w3 ⟨rfl, hM3, hX3, hD3⟩
      rw [dg_setCh] at hD3
      have hB3 := hM3.blk hB2.drew (by simp [hHX, hne])
      refine ⟨_, rfl, ⟨hB3.cell (i := 1) (by decide), hB3.cell (i := 2) (by decide), hB3.cell (i := 3) (by decide)⟩, ?_⟩
      refine OW.nil (CW.fresh [(0, .pointer (some ⟨hb, 1, none⟩)), (1, .pointer (some ⟨db, 0, none⟩)), (4, .pointer (some ⟨xb, 0, none⟩))] ⟨rfl, rfl, rfl, trivial⟩ (φ := (fun w' => Mod [hb, db] w w' ∧ Blk w' hb 8854 (hh len ch K B s) 56 ∧ Blk w' db 44 (dg { DS0 with ch := hfC B K ch 0 len, fl := bw .or .u32 0 2 }) 59 ∧ Rd w' xb 0 64 .u32 (hfO B K ch 0 len))) ⟨hM2.drewR.trans hM3 (fun k hk => by simp at hk; rcases hk with h5 | h5 <;> simp [h5, hwx]), hB3, hD3, hfC_out _ _ _ _ _ hX3⟩ ?_)
      clear hS hM2 hM3 hB2 hB3 hD2 hD3 hX0 hX3 hM1 hB1 hD1 hxb w3 w2 w1 J
      rintro J w1 ⟨hM1, hB1, hD1, hX1⟩
      first | refine CW.seq (CW.region ?_) | refine CW.seq (CW.seq (CW.region ?_))
      refine LW.val rfl rfl (r_move) ?_
      refine LW.val rfl rfl (r_nil rfl) ?_
      refine LW.val rfl rfl (r_field rfl fa54_0) ?_
      refine LW.val rfl rfl (r_load (a := ⟨hb, 1, none⟩) (v := .int .u64 ((len : Nat) : Int)) rfl one45 (hB1.cell (by decide))) ?_
      refine LW.val rfl rfl (r_gtrE rfl rfl (q := decide (1024 < len)) (decide_eq_decide.2 (by omega))) ?_
      refine LW.nil ?_
      have hC1 : f1C K B len ch = hfC B K ch 0 len := if_neg (by omega)
      refine CW.cond (b := decide (1024 < len)) rfl (fun h2 => ?_) (fun h2 => ?_)
      · have h2 := of_decide_eq_true h2
        have hn1 : f1n len = (len - 1) / 1024 := if_neg (by omega)
        obtain ⟨c, hc⟩ : ∃ c, c = (len - 1) / 1024 := ⟨_, rfl⟩
        rw [← hc] at hn1
        have hS1 : f1S K B s len ch = pushNF 0 K (hfO B K ch 0 len) s c := by rw [hc]; exact if_neg (by omega)
        have hB1e : f1B B len = bset B 0 (len - 1024 * c) (fun i => B (1024 * c + i)) := by rw [hc]; exact if_neg (by omega)
        first | refine CW.seq (CW.region ?_) | refine CW.seq (CW.seq (CW.region ?_))
        refine LW.val rfl rfl (r_move) ?_
        refine LW.val rfl rfl (r_nil rfl) ?_
        refine LW.val rfl rfl (r_field rfl fa54_0) ?_
        refine LW.val rfl rfl (r_load (a := ⟨hb, 1, none⟩) (v := .int .u64 ((len : Nat) : Int)) rfl one45 (hB1.cell (by decide))) ?_
        refine LW.val rfl rfl (r_subE rfl rfl (wN (m := len - 1) (by omega) (by omega))) ?_
        refine LW.val rfl rfl (r_quoE rfl rfl (by decide) (z := ((c : Nat) : Int)) (by rw [Int.tdiv_eq_ediv_of_nonneg (by omega), wN (m := c) (by omega) (by omega)])) ?_
        refine LW.val rfl rfl (r_assign) ?_
        refine LW.nil ?_
        have hS : (fun w => w.cell? ⟨hb, 3, none⟩ = some (.int .u32 0)) w1.drew := hB1.drew.cell (i := 3) (by decide)
        refine CW.seq (CW.drawn (fun w => w.cell? ⟨hb, 3, none⟩ = some (.int .u32 0)) [(0, true), (1, true), (2, true), (3, true), (4, true), (5, true), (6, true), (7, true), (8, true), (9, true), (10, true), (11, true), (12, false)] mixed (by kernel_rfl) (by kernel_rfl) ?_)
        refine OW.val hS rfl rfl rfl (fun _ _ => r_move) ?_
        refine OW.val hS rfl rfl rfl (fun _ _ => r_nil rfl) ?_
        refine OW.val hS rfl rfl rfl (fun _ _ => r_field rfl fa54_4) ?_
        refine OW.val hS rfl rfl rfl (fun _ _ => r_move) ?_
        refine OW.val hS rfl rfl rfl (fun _ _ => r_convE int45 int3 rfl (z := ((c : Nat) : Int)) (by rw [wrap_i64 (by omega) (by omega)])) ?_
        refine OW.val hS rfl rfl rfl (fun _ _ => r_move) ?_
        refine OW.val hS rfl rfl rfl (fun _ _ => r_nil rfl) ?_
        refine OW.val hS rfl rfl rfl (fun _ _ => r_field rfl fa54_2) ?_
        refine OW.val hS rfl rfl rfl (fun _ hS => r_load (a := ⟨hb, 3, none⟩) rfl one43 hS) ?_
        refine OW.val hS rfl rfl rfl (fun _ _ => r_move) ?_
        refine OW.val hS rfl rfl rfl (fun _ _ => r_nil rfl) ?_
        refine OW.val hS rfl rfl rfl (fun _ _ => r_field rfl fa54_3) ?_
        refine OW.call rfl rfl rfl (e_call en27) ?_
        refine (pushn_any hb xb c _ s 56 (hfO B K ch 0 len) 0 K _ hB1.drew hX1.drew (Ne.symm hHX) (by omega) (fun i hi => hbase_key _ _ _ _ hi) hs h8).mono ?_
        rintro e w2 ⟨rfl, hM2, hB2⟩
        refine ⟨_, rfl, hB2.cell (i := 3) (by decide), ?_⟩
        refine OW.nil (CW.fresh [(0, .pointer (some ⟨hb, 1, none⟩)), (1, .pointer (some ⟨db, 0, none⟩)), (4, .pointer (some ⟨xb, 0, none⟩)), (5, .int .u64 ((c : Nat) : Int))] ⟨rfl, rfl, rfl, rfl, trivial⟩ (φ := (fun w' => Mod [hb, db] w w' ∧ Blk w' hb 8854 (hh len ch K B (pushNF 0 K (hfO B K ch 0 len) s c)) 56 ∧ Blk w' db 44 (dg { DS0 with ch := hfC B K ch 0 len, fl := bw .or .u32 0 2 }) 59)) ⟨hM1.drewR.old hM2 (by simp), hB2, hM2.blk hD1.drew (by simpa using Ne.symm hne)⟩ ?_)
        clear hS hM1 hM2 hB1 hB2 hD1 hX1 w1 w2 J
        rintro J w1 ⟨hM1, hB1, hD1⟩
        first | refine CW.seq (CW.region ?_) | refine CW.seq (CW.seq (CW.region ?_))
        refine LW.val rfl rfl (r_move) ?_
        refine LW.val rfl rfl (r_nil rfl) ?_
        refine LW.val rfl rfl (r_field rfl fa54_1) ?_
        refine LW.val rfl rfl (r_load (a := ⟨hb, 2, none⟩) (v := .int .u64 ((ch : Nat) : Int)) rfl one45 (hB1.cell (by decide))) ?_
        refine LW.val rfl rfl (r_move) ?_
        refine LW.val rfl rfl (r_addE rfl rfl (wN (m := ch + c) (by omega) (by omega))) ?_
        refine LW.val rfl rfl (r_nil rfl) ?_
        refine LW.val rfl rfl (r_field rfl fa54_1) ?_
        refine LW.eff rfl rfl (r_storeB (i := 2) rfl rfl one45 rfl hB1 (by decide)) ?_
        have hB2 := hB1.set (i := 2) (.int .u64 ((ch + c : Nat) : Int)) (by decide)
        rw [hh_setCh] at hB2
        refine LW.nil (CW.fresh [(0, .pointer (some ⟨hb, 1, none⟩)), (1, .pointer (some ⟨db, 0, none⟩)), (4, .pointer (some ⟨xb, 0, none⟩)), (5, .int .u64 ((c : Nat) : Int))] ⟨rfl, rfl, rfl, rfl, trivial⟩ (φ := (fun w' => Mod [hb, db] w w' ∧ Blk w' hb 8854 (hh len (ch + c) K B (pushNF 0 K (hfO B K ch 0 len) s c)) 56 ∧ Blk w' db 44 (dg { DS0 with ch := hfC B K ch 0 len, fl := bw .or .u32 0 2 }) 59)) ⟨hM1.old (Mod.set _ hb _ _) (by simp), hB2, (Mod.set _ hb _ _).blk hD1 (by simpa using Ne.symm hne)⟩ ?_)
        clear hM1 hB1 hB2 hD1 w1 J
        rintro J w1 ⟨hM1, hB1, hD1⟩
        have hMP := Mod.putC w1.drew hb 662 (len - 1024 * c) (fun i => .int .u8 (B (1024 * c + i)))
        have hB2 := hB1.drew.putC (o := 662 + 0) (m := len - 1024 * c) (f := (fun i => .int .u8 (B (1024 * c + i)))) (by omega)
        rw [hh_setBuf] at hB2
        have hB3 := hB2.set (i := 1) (.int .u64 ((len - 1024 * c : Nat) : Int)) (by decide)
        rw [hh_setLen] at hB3
        refine CW.drawn (fun _ => True) [(0, true), (1, true), (2, true), (3, true), (4, true), (5, true), (6, true), (7, true), (8, true), (9, true), (10, true), (11, true), (12, true), (13, false), (14, true), (15, false), (16, true), (17, true), (18, true), (19, false)] mixed (by kernel_rfl) (by kernel_rfl) ?_
        refine OW.val trivial rfl rfl rfl (fun _ _ => r_move) ?_
        refine OW.val trivial rfl rfl rfl (fun _ _ => r_move) ?_
        refine OW.val trivial rfl rfl rfl (fun _ _ => r_nil rfl) ?_
        refine OW.val trivial rfl rfl rfl (fun _ _ => r_field rfl fa54_5) ?_
        refine OW.val trivial rfl rfl rfl (fun _ _ => r_arr_all rfl arr52) ?_
        refine OW.val trivial rfl rfl rfl (fun _ _ => r_move) ?_
        refine OW.val trivial rfl rfl rfl (fun _ _ => r_nil rfl) ?_
        refine OW.val trivial rfl rfl rfl (fun _ _ => r_field rfl fa54_5) ?_
        refine OW.val trivial rfl rfl rfl (fun _ _ => r_move) ?_
        refine OW.val trivial rfl rfl rfl (fun _ _ => r_mulE rfl rfl (wN (m := c * 1024) (by omega) (by omega))) ?_
        refine OW.val trivial rfl rfl rfl (fun _ _ => r_move) ?_
        refine OW.val trivial rfl rfl rfl (fun _ _ => r_nil rfl) ?_
        refine OW.val trivial rfl rfl rfl (fun _ _ => r_field rfl fa54_0) ?_
        refine OW.act rfl rfl rfl (r_load (a := ⟨hb, 1, none⟩) (v := .int .u64 ((len : Nat) : Int)) rfl one45 (hB1.drew.cell (by decide))) trivial ?_
        refine OW.val trivial rfl rfl rfl (fun _ _ => s11 (o := 662) (c := c) (len := len) rfl rfl rfl arr52 (by omega) hl (by omega)) ?_
        refine OW.act rfl rfl rfl (r_copyL (g := hb) (o := 662) (b := hb) (so := 662 + 1024 * c) (m := len - 1024 * c) (f := (fun i => .int .u8 (B (1024 * c + i)))) rfl rfl slc22 (Nat.min_eq_left (by omega)) hB1.drew (by omega) (fun i hi => by rw [Nat.add_assoc 662, hB1.drew.cell (by omega), hh_buf]) (fun _ _ => rfl)) trivial ?_
        refine OW.val trivial rfl rfl rfl (fun _ _ => r_convE int3 int45 rfl (wN (m := len - 1024 * c) rfl (by omega))) ?_
        refine OW.val trivial rfl rfl rfl (fun _ _ => r_nil rfl) ?_
        refine OW.val trivial rfl rfl rfl (fun _ _ => r_field rfl fa54_0) ?_
        refine OW.eff rfl rfl rfl (r_storeB (i := 1) rfl rfl one45 rfl hB2 (by decide)) trivial ?_
        refine OW.nil ⟨⟨rfl, rfl, trivial⟩, (hM1.drewR.old hMP (by simp)).old (Mod.set _ hb _ _) (by simp), ?_, ?_⟩
        · rw [hn1, hS1, hB1e]; exact hB3
        · rw [hC1]; exact (Mod.set _ hb _ _).blk (hMP.blk hD1.drew (by simpa using Ne.symm hne)) (by simpa using Ne.symm hne)
      · have h2 := of_decide_eq_false h2
        have hn1 : f1n len = 0 := if_pos (by omega)
        have hS1 : f1S K B s len ch = s := if_pos (by omega)
        have hB1e : f1B B len = B := if_pos (by omega)
        refine CW.skip ⟨⟨rfl, rfl, trivial⟩, hM1, ?_, ?_⟩
        · rw [hn1, hS1, hB1e]; exact hB1
        · rw [hC1]; exact hD1
    · have h := of_decide_eq_false h
      have hn1 : f1n len = 0 := if_pos (by omega)
      have hS1 : f1S K B s len ch = s := if_pos (by omega)
      have hB1e : f1B B len = B := if_pos (by omega)
      have hC1 : f1C K B len ch = K := if_pos (by omega)
      refine CW.skip ⟨⟨rfl, rfl, trivial⟩, hM1, ?_, ?_⟩
      · rw [hn1, hS1, hB1e]; exact hB1
      · rw [hC1]; exact hD1
  have hlen1 : len - 1024 * f1n len ≤ 1024 := by unfold f1n; split <;> omega
  have hch1 : ch + f1n len < 8589934592 := by unfold f1n; split <;> omega
  have hs1 : (f1S K B s len ch).ok := by
    unfold f1S; split
    · exact hs
    · exact (ok_pushN hs h8 _ _ _ _).1
  obtain ⟨n1, hn1⟩ : ∃ n1, n1 = len - 1024 * f1n len := ⟨_, rfl⟩
  obtain ⟨c1, hc1⟩ : ∃ c1, c1 = ch + f1n len := ⟨_, rfl⟩
  obtain ⟨s1, hs1e⟩ : ∃ s1, s1 = f1S K B s len ch := ⟨_, rfl⟩
  obtain ⟨B1, hB1e⟩ : ∃ B1, B1 = f1B B len := ⟨_, rfl⟩
  obtain ⟨C, hCe⟩ : ∃ C, C = f1C K B len ch := ⟨_, rfl⟩
  rw [← hn1] at hlen1 ⊢
  rw [← hc1] at hch1 ⊢
  rw [← hs1e] at hs1 ⊢
  rw [← hB1e, ← hCe]
  clear hn1 hc1 hs1e hB1e hCe hM1 hB1 hD1 w1 J hB hD hs h8 hl hch
  rintro J w1 ⟨hM1, hB1, hD1⟩
  first | refine CW.seq (CW.region ?_) | refine CW.seq (CW.seq (CW.region ?_))
  refine LW.val rfl rfl (r_move) ?_
  refine LW.val rfl rfl (r_nil rfl) ?_
  refine LW.val rfl rfl (r_field rfl fa54_0) ?_
  refine LW.val rfl rfl (r_load (a := ⟨hb, 1, none⟩) (v := .int .u64 ((n1 : Nat) : Int)) rfl one45 (hB1.cell (by decide))) ?_
  refine LW.val rfl rfl (r_leqE rfl rfl (q := decide (n1 ≤ 64)) (decide_eq_decide.2 (by omega))) ?_
  refine LW.nil ?_
  refine CW.cut [(0, .pointer (some ⟨hb, 1, none⟩)), (1, .pointer (some ⟨db, 0, none⟩))] (fun w' => Mod [hb, db] w w' ∧ Blk w' hb 8854 (hh n1 c1 K B1 (s1)) 56 ∧ Blk w' db 44 (dg ({ DS0 with ch := C, fl := tlFl n1 })) 59) ?_ ?_
  · refine CW.cond (b := decide (n1 ≤ 64)) rfl (fun h => ?_) (fun h => ?_)
    · have h := of_decide_eq_true h
      have hf : tlFl n1 = bw .or .u32 (bw .or .u32 0 2) 1 := if_pos h
      refine CW.region ?_
      refine LW.val rfl rfl (r_move) ?_
      refine LW.val rfl rfl (r_nil rfl) ?_
      refine LW.val rfl rfl (r_field rfl fa59_4) ?_
      refine LW.val rfl rfl (r_load (a := ⟨db, 26, none⟩) (v := .int .u32 (bw .or .u32 0 2)) rfl one43 (hD1.cell (by decide))) ?_
      refine LW.val rfl rfl (r_or rfl rfl) ?_
      refine LW.val rfl rfl (r_nil rfl) ?_
      refine LW.val rfl rfl (r_field rfl fa59_4) ?_
      refine LW.eff rfl rfl (r_storeB (i := 26) rfl rfl one43 rfl hD1 (by decide)) ?_
      have hD2 := hD1.set (i := 26) (.int .u32 (bw .or .u32 (bw .or .u32 0 2) 1)) (by decide)
      rw [dg_setFl] at hD2
      exact LW.nil ⟨⟨rfl, rfl, trivial⟩, hM1.old (Mod.set _ db _ _) (by simp), (Mod.set _ db _ _).blk hB1 (by simpa using hne), by rw [hf]; exact hD2⟩
    · have h := of_decide_eq_false h
      have hf : tlFl n1 = bw .or .u32 0 2 := if_neg h
      exact CW.skip ⟨⟨rfl, rfl, trivial⟩, hM1, hB1, by rw [hf]; exact hD1⟩
  clear hM1 hB1 hD1 w1 J
  rintro J w1 ⟨hM1, hB1, hD1⟩
  first | refine CW.seq (CW.region ?_) | refine CW.seq (CW.seq (CW.region ?_))
  refine LW.val rfl rfl (r_move) ?_
  refine LW.val rfl rfl (r_move) ?_
  refine LW.val rfl rfl (r_nil rfl) ?_
  refine LW.val rfl rfl (r_field rfl fa54_1) ?_
  refine LW.val rfl rfl (r_load (a := ⟨hb, 2, none⟩) (v := .int .u64 ((c1 : Nat) : Int)) rfl one45 (hB1.cell (by decide))) ?_
  refine LW.val rfl rfl (r_nil rfl) ?_
  refine LW.val rfl rfl (r_field rfl fa59_0) ?_
  refine LW.eff rfl rfl (r_storeB (i := 0) rfl rfl one45 rfl hD1 (by decide)) ?_
  have hD2 := hD1.set (i := 0) (.int .u64 ((c1 : Nat) : Int)) (by decide)
  rw [dg_setCtr] at hD2
  refine LW.nil (CW.fresh [(0, .pointer (some ⟨hb, 1, none⟩)), (1, .pointer (some ⟨db, 0, none⟩))] ⟨rfl, rfl, trivial⟩ (φ := (fun w' => Mod [hb, db] w w' ∧ Blk w' hb 8854 (hh n1 c1 K B1 (s1)) 56 ∧ Blk w' db 44 (dg ({ DS0 with ctr := c1, ch := C, fl := tlFl n1 })) 59)) ⟨hM1.old (Mod.set _ db _ _) (by simp), (Mod.set _ db _ _).blk hB1 (by simpa using hne), hD2⟩ ?_)
  clear hM1 hB1 hD1 hD2 w1 J
  rintro J w1 ⟨hM1, hB1, hD1⟩
  first | refine CW.seq (CW.region ?_) | refine CW.seq (CW.seq (CW.region ?_))
  refine LW.val rfl rfl (r_move) ?_
  refine LW.val rfl rfl (r_move) ?_
  refine LW.val rfl rfl (r_nil rfl) ?_
  refine LW.val rfl rfl (r_field rfl fa54_0) ?_
  refine LW.val rfl rfl (r_load (a := ⟨hb, 1, none⟩) (v := .int .u64 ((n1 : Nat) : Int)) rfl one45 (hB1.cell (by decide))) ?_
  refine LW.val rfl rfl (r_convE int45 int43 rfl (z := ((n1 : Nat) : Int)) (by rw [wrap_u32 (by omega) (by omega)])) ?_
  refine LW.val rfl rfl (r_remE rfl rfl (by decide) (z := ((n1 % 64 : Nat) : Int)) (by rw [Int.tmod_eq_emod_of_nonneg (by omega)]; omega)) ?_
  refine LW.val rfl rfl (r_nil rfl) ?_
  refine LW.val rfl rfl (r_field rfl fa59_3) ?_
  refine LW.eff rfl rfl (r_storeB (i := 25) rfl rfl one43 rfl hD1 (by decide)) ?_
  have hD2 := hD1.set (i := 25) (.int .u32 ((n1 % 64 : Nat) : Int)) (by decide)
  rw [dg_setBlen] at hD2
  refine LW.nil (CW.fresh [(0, .pointer (some ⟨hb, 1, none⟩)), (1, .pointer (some ⟨db, 0, none⟩))] ⟨rfl, rfl, trivial⟩ (φ := (fun w' => Mod [hb, db] w w' ∧ Blk w' hb 8854 (hh n1 c1 K B1 (s1)) 56 ∧ Blk w' db 44 (dg ({ DS0 with ctr := c1, ch := C, blen := ((n1 % 64 : Nat) : Int), fl := tlFl n1 })) 59)) ⟨hM1.old (Mod.set _ db _ _) (by simp), (Mod.set _ db _ _).blk hB1 (by simpa using hne), hD2⟩ ?_)
  clear hM1 hB1 hD1 hD2 w1 J
  rintro J w1 ⟨hM1, hB1, hD1⟩
  first | refine CW.seq (CW.region ?_) | refine CW.seq (CW.seq (CW.region ?_))
  refine LW.val rfl rfl (r_move) ?_
  refine LW.val rfl rfl (r_nil rfl) ?_
  refine LW.val rfl rfl (r_field rfl fa54_0) ?_
  refine LW.val rfl rfl (r_load (a := ⟨hb, 1, none⟩) (v := .int .u64 ((n1 : Nat) : Int)) rfl one45 (hB1.cell (by decide))) ?_
  refine LW.val rfl rfl (r_quoE rfl rfl (by decide) (z := ((n1 / 64 : Nat) : Int)) (by rw [Int.tdiv_eq_ediv_of_nonneg (by omega), wN (m := n1 / 64) (by omega) (by omega)])) ?_
  refine LW.val rfl rfl (r_mulE rfl rfl (wN (m := n1 / 64 * 64) (by omega) (by omega))) ?_
  refine LW.val rfl rfl (r_assign) ?_
  refine LW.nil ?_
  refine CW.seq (CW.seq (CW.cut [(0, .pointer (some ⟨hb, 1, none⟩)), (1, .pointer (some ⟨db, 0, none⟩)), (6, .int .u64 ((n1 / 64 * 64 : Nat) : Int)), (179, .bool (decide (tlFull n1)))] (fun w' => w' = w1) ?_ ?_))
  · by_cases h0 : 0 < n1
    · refine CW.region ?_
      refine LW.val rfl rfl (r_move) ?_
      refine LW.val rfl rfl (r_nil rfl) ?_
      refine LW.val rfl rfl (r_field rfl fa54_0) ?_
      refine LW.val rfl rfl (r_load (a := ⟨hb, 1, none⟩) (v := .int .u64 ((n1 : Nat) : Int)) rfl one45 (hB1.cell (by decide))) ?_
      refine LW.val rfl rfl (r_gtrE rfl rfl (q := true) (decide_eq_true (by omega))) ?_
      refine LW.val rfl rfl (r_move) ?_
      refine LW.gval (gyes rfl rfl rfl rfl rfl) rfl (r_move) ?_
      refine LW.gval (gyes rfl rfl rfl rfl rfl) rfl (r_nil rfl) ?_
      refine LW.gval (gyes rfl rfl rfl rfl rfl) rfl (r_field rfl fa59_3) ?_
      refine LW.gval (gyes rfl rfl rfl rfl rfl) rfl (r_load (a := ⟨db, 25, none⟩) (v := .int .u32 ((n1 % 64 : Nat) : Int)) rfl one43 (hD1.cell (by decide))) ?_
      refine LW.gval (gyes rfl rfl rfl rfl rfl) rfl (r_eqlE rfl rfl (q := decide (n1 % 64 = 0)) (eq0 _)) ?_
      refine LW.val rfl rfl (r_pick rfl) ?_
      exact LW.nil ⟨⟨rfl, rfl, rfl, congrArg Value.bool (decide_eq_decide.2 ⟨fun h => ⟨h0, h⟩, fun h => h.2⟩), trivial⟩, rfl⟩
    · refine CW.region ?_
      refine LW.val rfl rfl (r_move) ?_
      refine LW.val rfl rfl (r_nil rfl) ?_
      refine LW.val rfl rfl (r_field rfl fa54_0) ?_
      refine LW.val rfl rfl (r_load (a := ⟨hb, 1, none⟩) (v := .int .u64 ((n1 : Nat) : Int)) rfl one45 (hB1.cell (by decide))) ?_
      refine LW.val rfl rfl (r_gtrE rfl rfl (q := false) (decide_eq_false (by omega))) ?_
      refine LW.val rfl rfl (r_move) ?_
      refine LW.pass (gno rfl rfl rfl rfl rfl) rfl ?_
      refine LW.pass (gno rfl rfl rfl rfl rfl) rfl ?_
      refine LW.pass (gno rfl rfl rfl rfl rfl) rfl ?_
      refine LW.pass (gno rfl rfl rfl rfl rfl) rfl ?_
      refine LW.pass (gno rfl rfl rfl rfl rfl) rfl ?_
      refine LW.val rfl rfl (r_pick rfl) ?_
      exact LW.nil ⟨⟨rfl, rfl, rfl, congrArg Value.bool (decide_eq_false (fun h => h0 h.1)).symm, trivial⟩, rfl⟩
  clear J
  rintro J w0 hw0
  rw [hw0]
  clear hw0 w0
  refine CW.cut [(0, .pointer (some ⟨hb, 1, none⟩)), (1, .pointer (some ⟨db, 0, none⟩)), (6, .int .u64 ((tlBa n1 : Nat) : Int))] (fun w' => Mod [hb, db] w w' ∧ Blk w' hb 8854 (hh n1 c1 K B1 (s1)) 56 ∧ Blk w' db 44 (dg ({ DS0 with ctr := c1, ch := C, blen := ((tlBl n1 : Nat) : Int), fl := tlFl n1 })) 59) ?_ ?_
  · refine CW.cond (b := decide (tlFull n1)) rfl (fun h => ?_) (fun h => ?_)
    · have h := of_decide_eq_true h
      have hbl : tlBl n1 = 64 := if_pos h
      have hba : tlBa n1 = n1 / 64 * 64 - 64 := if_pos h
      have h01 := h.1
      have h02 := h.2
      first | refine CW.seq (CW.region ?_) | refine CW.seq (CW.seq (CW.region ?_))
      refine LW.val rfl rfl (r_move) ?_
      refine LW.val rfl rfl (r_nil rfl) ?_
      refine LW.val rfl rfl (r_field rfl fa59_3) ?_
      refine LW.eff rfl rfl (r_storeB (i := 25) rfl rfl one43 rfl hD1 (by decide)) ?_
      have hD2 := hD1.set (i := 25) (.int .u32 ((64 : Nat) : Int)) (by decide)
      rw [dg_setBlen] at hD2
      refine LW.nil (CW.region ?_)
      refine LW.val rfl rfl (r_move) ?_
      refine LW.val rfl rfl (r_subE rfl rfl (wN (m := n1 / 64 * 64 - 64) (by omega) (by omega))) ?_
      refine LW.val rfl rfl (r_assign) ?_
      exact LW.nil ⟨⟨rfl, rfl, congrArg (fun (n : Nat) => Value.int .u64 (n : Int)) hba.symm, trivial⟩, hM1.old (Mod.set _ db _ _) (by simp), (Mod.set _ db _ _).blk hB1 (by simpa using hne), by rw [hbl]; exact hD2⟩
    · have h := of_decide_eq_false h
      have hbl : tlBl n1 = n1 % 64 := if_neg h
      have hba : tlBa n1 = n1 / 64 * 64 := if_neg h
      exact CW.skip ⟨⟨rfl, rfl, congrArg (fun (n : Nat) => Value.int .u64 (n : Int)) hba.symm, trivial⟩, hM1, hB1, by rw [hbl]; exact hD1⟩
  have hba1 : tlBa n1 ≤ n1 ∧ n1 - tlBa n1 ≤ 64 ∧ tlBa n1 < 8192 := by
    by_cases ht : tlFull n1
    · have h1 := ht.1
      have h2 := ht.2
      rw [tlBa, if_pos ht]; omega
    · rw [tlBa, if_neg ht]; omega
  clear hM1 hB1 hD1 J
  rintro J w2 ⟨hM1, hB1, hD1⟩
  first | refine CW.seq (CW.region ?_) | refine CW.seq (CW.seq (CW.region ?_))
  refine LW.val rfl rfl (r_alloc zeroF72) ?_
  refine LW.nil ?_
  have hMA := Mod.alloc w2 (.cells (Array.ofFn (n := 64) fun i => (fun _ => Value.int .u8 0) i.val) 72)
  have hT0 := Blk.new w2 64 (fun _ => Value.int .u8 0) 72
  obtain ⟨tb, htb⟩ : ∃ tb, tb = w2.heap.size := ⟨_, rfl⟩
  rw [← htb] at hT0 ⊢
  have hDT : db ≠ tb := hD1.ne (by omega)
  have hHT : hb ≠ tb := hB1.ne (by omega)
  have hwt : w.heap.size ≤ tb := by have := hM1.size; omega
  have hB2 := hMA.blk hB1 (by simp)
  have hD2 := hMA.blk hD1 (by simp)
  have hM2 := hM1.none hMA
  obtain ⟨w3, hw3⟩ : ∃ w3, w3 = w2.alloc (.cells (Array.ofFn (n := 64) fun i => (fun _ => Value.int .u8 0) i.val) 72) := ⟨_, rfl⟩
  rw [← hw3] at hT0 hB2 hD2 hM2 ⊢
  clear hw3 hMA hM1 hB1 hD1 htb w2
  have hS : (fun w => w.cell? ⟨hb, 1, none⟩ = some (.int .u64 ((n1 : Nat) : Int))) w3.drew := hB2.drew.cell (i := 1) (by decide)
  have hMP := Mod.putC w3.drew tb 0 (n1 - tlBa n1) (fun i => .int .u8 (B1 (tlBa n1 + i)))
  have hB3 := hMP.blk hB2.drew (by simpa using hHT)
  have hD3 := hMP.blk hD2.drew (by simpa using hDT)
  have hT1 := hT0.drew.putC (o := 0) (m := n1 - tlBa n1) (f := (fun i => .int .u8 (B1 (tlBa n1 + i)))) (by omega)
  refine CW.seq (CW.drawn (fun w => w.cell? ⟨hb, 1, none⟩ = some (.int .u64 ((n1 : Nat) : Int))) [(0, true), (1, true), (2, true), (3, true), (4, true), (5, true), (6, true), (7, true), (8, true), (9, true), (10, false)] mixed (by kernel_rfl) (by kernel_rfl) ?_)
  refine OW.val hS rfl rfl rfl (fun _ _ => r_arr_all rfl arr72) ?_
  refine OW.val hS rfl rfl rfl (fun _ _ => r_move) ?_
  refine OW.val hS rfl rfl rfl (fun _ _ => r_nil rfl) ?_
  refine OW.val hS rfl rfl rfl (fun _ _ => r_field rfl fa54_5) ?_
  refine OW.val hS rfl rfl rfl (fun _ _ => r_move) ?_
  refine OW.val hS rfl rfl rfl (fun _ _ => r_move) ?_
  refine OW.val hS rfl rfl rfl (fun _ _ => r_nil rfl) ?_
  refine OW.val hS rfl rfl rfl (fun _ _ => r_field rfl fa54_0) ?_
  refine OW.val hS rfl rfl rfl (fun _ hS => r_load (a := ⟨hb, 1, none⟩) rfl one45 hS) ?_
  refine OW.val hS rfl rfl rfl (fun _ _ => s21 (o := 662) (c := tlBa n1) (len := n1) rfl rfl rfl arr52 (by omega) (by omega) (by omega)) ?_
  refine OW.act rfl rfl rfl (r_copyL (g := tb) (o := 0) (b := hb) (so := 662 + tlBa n1) (m := n1 - tlBa n1) (f := (fun i => .int .u8 (B1 (tlBa n1 + i)))) rfl rfl slc22 (Nat.min_eq_left (by omega)) hT0.drew (by omega) (fun i hi => by rw [Nat.add_assoc 662, hB2.drew.cell (by omega), hh_buf]) (fun _ _ => rfl)) (hB3.cell (i := 1) (by decide)) ?_
  have hTR : Rd (putC w3.drew tb 0 (n1 - tlBa n1) (fun i => .int .u8 (B1 (tlBa n1 + i)))) tb 0 64 .u8 (fun j => if j < n1 - tlBa n1 then B1 (tlBa n1 + j) else 0) := hT1.rd (by decide) (fun i hi => by
      by_cases hi2 : i < n1 - tlBa n1
      · rw [put_in _ _ (by omega), if_pos hi2, Nat.zero_add, Nat.sub_zero]
      · rw [put_out _ _ (by omega), if_neg hi2])
  refine OW.nil (CW.fresh [(0, .pointer (some ⟨hb, 1, none⟩)), (1, .pointer (some ⟨db, 0, none⟩)), (7, .pointer (some ⟨tb, 0, none⟩))] ⟨rfl, rfl, rfl, trivial⟩ (φ := (fun w' => Mod [hb, db] w w' ∧ Blk w' hb 8854 (hh n1 c1 K B1 s1) 56 ∧ Blk w' db 44 (dg { DS0 with ctr := c1, ch := C, blen := ((tlBl n1 : Nat) : Int), fl := tlFl n1 }) 59 ∧ Rd w' tb 0 64 .u8 (fun j => if j < n1 - tlBa n1 then B1 (tlBa n1 + j) else 0))) ⟨hM2.drewR.fresh hMP hwt, hB3, hD3, hTR⟩ ?_)
  clear hS hM2 hMP hB2 hB3 hD2 hD3 hT0 hT1 hTR w3 J
  rintro J w2 ⟨hM1, hB1, hD1, hT1⟩
  first | refine CW.seq (CW.region ?_) | refine CW.seq (CW.seq (CW.region ?_))
  refine LW.val rfl rfl (r_move) ?_
  refine LW.val rfl rfl (r_nil rfl) ?_
  refine LW.val rfl rfl (r_field rfl fa59_2) ?_
  refine LW.call rfl rfl (e_call en28) ?_
  refine (b2w_any tb 0 db 9 44 _ 59 (fun j => if j < n1 - tlBa n1 then B1 (tlBa n1 + j) else 0) w2 hT1 (Ne.symm hDT) hD1 (by decide)).mono ?_
  rintro e w3 ⟨rfl, hM3, hD3⟩
  rw [dg_setBl] at hD3
  refine ⟨_, rfl, ?_⟩
  have hB3 := hM3.blk hB1 (by simpa using hne)
  refine LW.nil (CW.fresh [(0, .pointer (some ⟨hb, 1, none⟩)), (1, .pointer (some ⟨db, 0, none⟩))] ⟨rfl, rfl, trivial⟩ (φ := (fun w' => Mod [hb, db] w w' ∧ Blk w' hb 8854 (hh n1 c1 K B1 (s1)) 56 ∧ Blk w' db 44 (dg (tlD C n1 c1 B1)) 59)) ⟨hM1.old hM3 (by simp), hB3, hD3⟩ ?_)
  clear hM1 hB1 hD1 hT1 hM3 hD3 hB3 w2 w3 hDT hHT hwt tb J
  rintro J w3 hP
  refine CW.seq (CW.block (CW.loop (fun m E w' => ∃ (s2 : CS) (J : Env), s2.wt = m ∧ s2.ok ∧ fl0 0 K s2 = fl0 0 K s1 ∧ E = tab (α := Value) J [(0, .pointer (some ⟨hb, 1, none⟩)), (1, .pointer (some ⟨db, 0, none⟩))] ∧ (fun w' => Mod [hb, db] w w' ∧ Blk w' hb 8854 (hh n1 c1 K B1 (s2)) 56 ∧ Blk w' db 44 (dg (tlD C n1 c1 B1)) 59) w') s1.wt ?_ ?_))
  · exact ⟨_, _, rfl, hs1, rfl, (tab_of_agrees (α := Value) _ [(0, .pointer (some ⟨hb, 1, none⟩)), (1, .pointer (some ⟨db, 0, none⟩))] ⟨rfl, rfl, trivial⟩).symm, hP⟩
  · clear hP J
    rintro m E w2 ⟨s2, J, hm, hok, hfl, rfl, hM1, hB1, hD1⟩
    by_cases hf : 0 < s2.bufn
    · first | refine CW.seq (CW.region ?_) | refine CW.seq (CW.seq (CW.region ?_))
      refine LW.val rfl rfl (r_move) ?_
      refine LW.val rfl rfl (r_nil rfl) ?_
      refine LW.val rfl rfl (r_field rfl fa54_4) ?_
      refine LW.val rfl rfl (r_field rfl fa51_2) ?_
      refine LW.val rfl rfl (r_load (a := ⟨hb, 21, none⟩) (v := .int .i64 ((s2.bufn : Nat) : Int)) rfl one3 (hB1.cell (by decide))) ?_
      refine LW.val rfl rfl (r_gtrE rfl rfl (q := true) (decide_eq_true (by omega))) ?_
      refine LW.nil ?_
      first | refine CW.cond_t rfl (CW.skip ?_) | refine CW.seq (CW.cond_t rfl (CW.skip ?_))
      have hS : (fun w => w.cell? ⟨hb, 3, none⟩ = some (.int .u32 0)) w2.drew := hB1.drew.cell (i := 3) (by decide)
      refine CW.block (CW.drawn (fun w => w.cell? ⟨hb, 3, none⟩ = some (.int .u32 0)) [(0, true), (1, true), (2, true), (3, true), (4, true), (5, true), (6, true), (7, true), (8, true), (9, true), (10, false)] mixed (by kernel_rfl) (by kernel_rfl) ?_)
      refine OW.val hS rfl rfl rfl (fun _ _ => r_move) ?_
      refine OW.val hS rfl rfl rfl (fun _ _ => r_nil rfl) ?_
      refine OW.val hS rfl rfl rfl (fun _ _ => r_field rfl fa54_4) ?_
      refine OW.val hS rfl rfl rfl (fun _ _ => r_move) ?_
      refine OW.val hS rfl rfl rfl (fun _ _ => r_nil rfl) ?_
      refine OW.val hS rfl rfl rfl (fun _ _ => r_field rfl fa54_2) ?_
      refine OW.val hS rfl rfl rfl (fun _ hS => r_load (a := ⟨hb, 3, none⟩) rfl one43 hS) ?_
      refine OW.val hS rfl rfl rfl (fun _ _ => r_move) ?_
      refine OW.val hS rfl rfl rfl (fun _ _ => r_nil rfl) ?_
      refine OW.val hS rfl rfl rfl (fun _ _ => r_field rfl fa54_3) ?_
      refine OW.call rfl rfl rfl (e_call en29) ?_
      refine (flush_any hb _ s2 56 0 K _ hB1.drew (fun i hi => hbase_key _ _ _ _ hi) hok).mono ?_
      rintro e w4 ⟨rfl, hM4, hB4⟩
      refine ⟨_, rfl, hB4.cell (i := 3) (by decide), ?_⟩
      have hw := wt_flush s2 0 K
      exact OW.nil ⟨(flushF s2 0 K).wt, by omega, _, _, rfl, ok_flush hok 0 K, by rw [fl0, if_pos hf] at hfl; exact hfl, (tab_of_agrees (α := Value) _ [(0, .pointer (some ⟨hb, 1, none⟩)), (1, .pointer (some ⟨db, 0, none⟩))] ⟨rfl, rfl, trivial⟩).symm, hM1.drewR.old hM4 (by simp), hB4, hM4.blk hD1.drew (by simpa using Ne.symm hne)⟩
    · first | refine CW.seq (CW.region ?_) | refine CW.seq (CW.seq (CW.region ?_))
      refine LW.val rfl rfl (r_move) ?_
      refine LW.val rfl rfl (r_nil rfl) ?_
      refine LW.val rfl rfl (r_field rfl fa54_4) ?_
      refine LW.val rfl rfl (r_field rfl fa51_2) ?_
      refine LW.val rfl rfl (r_load (a := ⟨hb, 21, none⟩) (v := .int .i64 ((s2.bufn : Nat) : Int)) rfl one3 (hB1.cell (by decide))) ?_
      refine LW.val rfl rfl (r_gtrE rfl rfl (q := false) (decide_eq_false (by omega))) ?_
      refine LW.nil ?_
      first | refine CW.seq (CW.cond_f rfl (CW.exit (Or.inl ⟨rfl, ?_⟩))) | refine CW.cond_f rfl (CW.exit (Or.inl ⟨rfl, ?_⟩))
      rw [fl0, if_neg hf] at hfl
      have hocc := hok.occ
      rw [tlF, ← hfl]
      clear hfl hf hm hok m hs1 s1
      first | refine CW.seq (CW.region ?_) | refine CW.seq (CW.seq (CW.region ?_))
      refine LW.val rfl rfl (r_alloc zeroF57) ?_
      refine LW.nil ?_
      have hMA := Mod.alloc w2 (.cells (Array.ofFn (n := 16) fun i => (fun _ => Value.int .u32 0) i.val) 57)
      have hX0 := Blk.new w2 16 (fun _ => Value.int .u32 0) 57
      obtain ⟨xb, hxb⟩ : ∃ xb, xb = w2.heap.size := ⟨_, rfl⟩
      rw [← hxb] at hX0 ⊢
      have hDX : db ≠ xb := hD1.ne (by omega)
      have hHX : hb ≠ xb := hB1.ne (by omega)
      have hwx : w.heap.size ≤ xb := by have := hM1.size; omega
      have hB2 := hMA.blk hB1 (by simp)
      have hD2 := hMA.blk hD1 (by simp)
      have hM2 := hM1.none hMA
      obtain ⟨w5, hw5⟩ : ∃ w5, w5 = w2.alloc (.cells (Array.ofFn (n := 16) fun i => (fun _ => Value.int .u32 0) i.val) 57) := ⟨_, rfl⟩
      rw [← hw5] at hX0 hB2 hD2 hM2 ⊢
      clear hw5 hMA hM1 hB1 hD1 hxb w2
      first | refine CW.seq (CW.region ?_) | refine CW.seq (CW.seq (CW.region ?_))
      refine LW.val rfl rfl (r_move) ?_
      refine LW.val rfl rfl (r_nil rfl) ?_
      refine LW.val rfl rfl (r_field rfl fa54_4) ?_
      refine LW.val rfl rfl (r_field rfl fa51_0) ?_
      refine LW.val rfl rfl (r_load (a := ⟨hb, 12, none⟩) (v := .int .u64 ((s2.occ : Nat) : Int)) rfl one45 (hB2.cell (by decide))) ?_
      refine LW.val rfl rfl (r_assign) ?_
      refine LW.nil ?_
      refine CW.block (CW.loop (fun m E w' => ∃ (o : Nat) (d : DS) (J : Env), o = m ∧ o < 2 ^ 64 ∧ mgF K s2 T o d = mgF K s2 T s2.occ (tlD C n1 c1 B1) ∧ E = tab (α := Value) J [(0, .pointer (some ⟨hb, 1, none⟩)), (1, .pointer (some ⟨db, 0, none⟩)), (8, .pointer (some ⟨xb, 0, none⟩)), (9, .int .u64 ((o : Nat) : Int))] ∧ (fun w' => Mod [hb, db] w w' ∧ Blk w' hb 8854 (hh n1 c1 K B1 s2) 56 ∧ Blk w' db 44 (dg (d)) 59 ∧ ∃ cX, Blk w' xb 16 cX 57) w') s2.occ ?_ ?_)
      · exact ⟨_, _, _, rfl, hocc, rfl, (tab_of_agrees (α := Value) _ [(0, .pointer (some ⟨hb, 1, none⟩)), (1, .pointer (some ⟨db, 0, none⟩)), (8, .pointer (some ⟨xb, 0, none⟩)), (9, .int .u64 ((s2.occ : Nat) : Int))] ⟨rfl, rfl, rfl, rfl, trivial⟩).symm, hM2, hB2, hD2, _, hX0⟩
      · clear hM2 hB2 hD2 hX0 w5 J
        rintro m E w2 ⟨o, d, J, hm, ho, hmg, rfl, hM1, hB1, hD1, cX, hX1⟩
        by_cases h0 : o = 0
        · first | refine CW.seq (CW.region ?_) | refine CW.seq (CW.seq (CW.region ?_))
          refine LW.val rfl rfl (r_move) ?_
          refine LW.val rfl rfl (r_neqE rfl rfl (q := false) (by rw [h0]; rfl)) ?_
          refine LW.nil ?_
          first | refine CW.seq (CW.cond_f rfl (CW.exit (Or.inl ⟨rfl, ?_⟩))) | refine CW.cond_f rfl (CW.exit (Or.inl ⟨rfl, ?_⟩))
          rw [h0, mgF_zero] at hmg
          rw [← hmg]
          refine CW.region ?_
          refine LW.val rfl rfl (r_move) ?_
          refine LW.val rfl rfl (r_nil rfl) ?_
          refine LW.val rfl rfl (r_field rfl fa59_4) ?_
          refine LW.val rfl rfl (r_load (a := ⟨db, 26, none⟩) (v := .int .u32 d.fl) rfl one43 (hD1.cell (by decide))) ?_
          refine LW.val rfl rfl (r_or rfl rfl) ?_
          refine LW.val rfl rfl (r_nil rfl) ?_
          refine LW.val rfl rfl (r_field rfl fa59_4) ?_
          refine LW.eff rfl rfl (r_storeB (i := 26) rfl rfl one43 rfl hD1 (by decide)) ?_
          have hD2 := hD1.set (i := 26) (.int .u32 (bw .or .u32 d.fl 8)) (by decide)
          rw [dg_setFl] at hD2
          exact LW.nil ⟨_, RetV.none rfl, rfl, hM1.old (Mod.set _ db _ _) (by simp), hD2⟩
        · first | refine CW.seq (CW.region ?_) | refine CW.seq (CW.seq (CW.region ?_))
          refine LW.val rfl rfl (r_move) ?_
          refine LW.val rfl rfl (r_neqE rfl rfl (q := true) (by simpa using h0)) ?_
          refine LW.nil ?_
          first | refine CW.cond_t rfl (CW.skip ?_) | refine CW.seq (CW.cond_t rfl (CW.skip ?_))
          refine CW.seq (CW.block ?_)
          first | refine CW.seq (CW.region ?_) | refine CW.seq (CW.seq (CW.region ?_))
          refine LW.val rfl rfl (r_move) ?_
          refine LW.call rfl rfl (e_call en30) ?_
          refine (tz_any (o : Int) T w2 (hM1.rd hT (by simp [Ne.symm h1h, Ne.symm h1d])) (by omega)).mono ?_
          rintro e w3 ⟨rfl, hw3⟩
          refine ⟨_, rfl, ?_⟩
          rw [hw3]
          clear hw3 w3
          refine LW.val rfl rfl (r_conv int3 int76 rfl) ?_
          refine LW.val rfl rfl (r_remE rfl rfl (by decide) (colF_eq T o)) ?_
          refine LW.val rfl rfl (r_assign) ?_
          have hcol := colF_lt T o
          refine LW.nil (CW.base [(0, .pointer (some ⟨hb, 1, none⟩)), (1, .pointer (some ⟨db, 0, none⟩)), (8, .pointer (some ⟨xb, 0, none⟩)), (9, .int .u64 ((o : Nat) : Int)), (10, .int .u64 ((colF T o : Nat) : Int))] ⟨rfl, rfl, rfl, rfl, rfl, trivial⟩ fun J => ?_)
          have hS : (fun w => w.cell? ⟨db, 0, none⟩ = some (.int .u64 ((d.ctr : Nat) : Int)) ∧ w.cell? ⟨db, 25, none⟩ = some (.int .u32 d.blen) ∧ w.cell? ⟨db, 26, none⟩ = some (.int .u32 d.fl)) w2.drew := ⟨hD1.drew.cell (i := 0) (by decide), hD1.drew.cell (i := 25) (by decide), hD1.drew.cell (i := 26) (by decide)⟩
          refine CW.seq (CW.drawn (fun w => w.cell? ⟨db, 0, none⟩ = some (.int .u64 ((d.ctr : Nat) : Int)) ∧ w.cell? ⟨db, 25, none⟩ = some (.int .u32 d.blen) ∧ w.cell? ⟨db, 26, none⟩ = some (.int .u32 d.fl)) [(0, true), (1, true), (2, true), (3, true), (4, true), (5, true), (6, true), (7, true), (8, true), (9, true), (10, true), (11, true), (12, true), (13, true), (14, true), (15, true), (16, true), (17, true), (18, false)] mixed (by kernel_rfl) (by kernel_rfl) ?_)
          refine OW.val hS rfl rfl rfl (fun _ _ => r_move) ?_
          refine OW.val hS rfl rfl rfl (fun _ _ => r_nil rfl) ?_
          refine OW.val hS rfl rfl rfl (fun _ _ => r_field rfl fa59_1) ?_
          refine OW.val hS rfl rfl rfl (fun _ _ => r_move) ?_
          refine OW.val hS rfl rfl rfl (fun _ _ => r_nil rfl) ?_
          refine OW.val hS rfl rfl rfl (fun _ _ => r_field rfl fa59_2) ?_
          refine OW.val hS rfl rfl rfl (fun _ _ => r_move) ?_
          refine OW.val hS rfl rfl rfl (fun _ _ => r_nil rfl) ?_
          refine OW.val hS rfl rfl rfl (fun _ _ => r_field rfl fa59_0) ?_
          refine OW.val hS rfl rfl rfl (fun _ hS => r_load (a := ⟨db, 0, none⟩) rfl one45 hS.1) ?_
          refine OW.val hS rfl rfl rfl (fun _ _ => r_move) ?_
          refine OW.val hS rfl rfl rfl (fun _ _ => r_nil rfl) ?_
          refine OW.val hS rfl rfl rfl (fun _ _ => r_field rfl fa59_3) ?_
          refine OW.val hS rfl rfl rfl (fun _ hS => r_load (a := ⟨db, 25, none⟩) rfl one43 hS.2.1) ?_
          refine OW.val hS rfl rfl rfl (fun _ _ => r_move) ?_
          refine OW.val hS rfl rfl rfl (fun _ _ => r_nil rfl) ?_
          refine OW.val hS rfl rfl rfl (fun _ _ => r_field rfl fa59_4) ?_
          refine OW.val hS rfl rfl rfl (fun _ hS => r_load (a := ⟨db, 26, none⟩) rfl one43 hS.2.2) ?_
          refine OW.call rfl rfl rfl (e_call en31) ?_
          refine (comp31_any db 1 db 9 xb 0 16 cX 57 d.ch d.bl d.ctr d.blen d.fl _ (hD1.drew.rd (by decide) (fun i hi => dg_ch _ hi)) (hD1.drew.rd (by decide) (fun i hi => dg_bl _ hi)) hX1.drew (by decide) (Or.inl hDX) (Or.inl hDX)).mono ?_
          rintro e w4 ⟨rfl, hM4, hX4⟩
          have hD4 := hM4.blk hD1.drew (by simpa using hDX)
          have hB4 := hM4.blk hB1.drew (by simpa using hHX)
          refine ⟨_, rfl, ⟨hD4.cell (i := 0) (by decide), hD4.cell (i := 25) (by decide), hD4.cell (i := 26) (by decide)⟩, ?_⟩
          refine OW.nil (CW.fresh [(0, .pointer (some ⟨hb, 1, none⟩)), (1, .pointer (some ⟨db, 0, none⟩)), (8, .pointer (some ⟨xb, 0, none⟩)), (9, .int .u64 ((o : Nat) : Int)), (10, .int .u64 ((colF T o : Nat) : Int))] ⟨rfl, rfl, rfl, rfl, rfl, trivial⟩ (φ := (fun w' => Mod [hb, db] w w' ∧ Blk w' hb 8854 (hh n1 c1 K B1 s2) 56 ∧ Blk w' db 44 (dg (d)) 59 ∧ Blk w' xb 16 (put cX 0 16 (fun i => .int .u32 ((compF d.ch d.bl d.ctr d.blen d.fl) i))) 57)) ⟨hM1.drewR.fresh hM4 hwx, hB4, hD4, hX4⟩ ?_)
          clear hS hM1 hB1 hD1 hX1 hM4 hB4 hD4 hX4 w4 w2 J
          rintro J w2 ⟨hM1, hB1, hD1, hX1⟩
          have hMP := Mod.putC w2.drew db 9 8 (fun i => .int .u32 (s2.stk (colF T o * 8 + i)))
          have hD2 := hD1.drew.putC (o := 9) (m := 8) (f := (fun i => .int .u32 (s2.stk (colF T o * 8 + i)))) (by decide)
          rw [dg_setBlL] at hD2
          refine CW.seq (CW.drawn (fun _ => True) [(0, true), (1, true), (2, true), (3, true), (4, true), (5, true), (6, true), (7, true), (8, true), (9, true), (10, true), (11, false)] mixed (by kernel_rfl) (by kernel_rfl) ?_)
          refine OW.val trivial rfl rfl rfl (fun _ _ => r_move) ?_
          refine OW.val trivial rfl rfl rfl (fun _ _ => r_nil rfl) ?_
          refine OW.val trivial rfl rfl rfl (fun _ _ => r_field rfl fa59_2) ?_
          refine OW.val trivial rfl rfl rfl (fun _ _ => r_arr_h (n := 16) (es := 1) rfl rfl arr57 (by decide) (by decide)) ?_
          refine OW.val trivial rfl rfl rfl (fun _ _ => r_move) ?_
          refine OW.val trivial rfl rfl rfl (fun _ _ => r_move) ?_
          refine OW.val trivial rfl rfl rfl (fun _ _ => r_nil rfl) ?_
          refine OW.val trivial rfl rfl rfl (fun _ _ => r_field rfl fa54_4) ?_
          refine OW.val trivial rfl rfl rfl (fun _ _ => r_field rfl fa51_4) ?_
          refine OW.val trivial rfl rfl rfl (fun _ _ => r_ix8 rfl rfl arr49 hcol) ?_
          refine OW.val trivial rfl rfl rfl (fun _ _ => r_arr_all rfl arr44) ?_
          refine OW.act rfl rfl rfl (r_copyL (g := db) (o := 9) (b := hb) (so := 150 + colF T o * 8) (m := 8) (f := (fun i => .int .u32 (s2.stk (colF T o * 8 + i)))) rfl rfl slc79 rfl hD1.drew (by decide) (fun i hi => by rw [Nat.add_assoc 150, hB1.drew.cell (by omega), hh, hc_stk0 _ _ (by omega)]) (fun _ _ => rfl)) trivial ?_
          refine OW.nil (CW.fresh [(0, .pointer (some ⟨hb, 1, none⟩)), (1, .pointer (some ⟨db, 0, none⟩)), (8, .pointer (some ⟨xb, 0, none⟩)), (9, .int .u64 ((o : Nat) : Int)), (10, .int .u64 ((colF T o : Nat) : Int))] ⟨rfl, rfl, rfl, rfl, rfl, trivial⟩ (φ := (fun w' => Mod [hb, db] w w' ∧ Blk w' hb 8854 (hh n1 c1 K B1 s2) 56 ∧ Blk w' db 44 (dg ({ d with bl := fun i => if i < 8 then s2.stk (colF T o * 8 + i) else d.bl i })) 59 ∧ Blk w' xb 16 (put cX 0 16 (fun i => .int .u32 ((compF d.ch d.bl d.ctr d.blen d.fl) i))) 57)) ⟨hM1.drewR.old hMP (by simp), hMP.blk hB1.drew (by simpa using hne), hD2, hMP.blk hX1.drew (by simpa using Ne.symm hDX)⟩ ?_)
          clear hM1 hB1 hD1 hX1 hMP hD2 w2 J
          rintro J w2 ⟨hM1, hB1, hD1, hX1⟩
          have hMP := Mod.putC w2.drew db 17 8 (fun i => .int .u32 ((compF d.ch d.bl d.ctr d.blen d.fl) i))
          have hD2 := hD1.drew.putC (o := 17) (m := 8) (f := (fun i => .int .u32 ((compF d.ch d.bl d.ctr d.blen d.fl) i))) (by decide)
          rw [dg_setBlR] at hD2
          refine CW.seq (CW.drawn (fun _ => True) [(0, true), (1, true), (2, true), (3, true), (4, true), (5, false)] mixed (by kernel_rfl) (by kernel_rfl) ?_)
          refine OW.val trivial rfl rfl rfl (fun _ _ => r_move) ?_
          refine OW.val trivial rfl rfl rfl (fun _ _ => r_nil rfl) ?_
          refine OW.val trivial rfl rfl rfl (fun _ _ => r_field rfl fa59_2) ?_
          refine OW.val trivial rfl rfl rfl (fun _ _ => r_arr_l (n := 16) (es := 1) rfl rfl arr57 (by decide) (by decide)) ?_
          refine OW.val trivial rfl rfl rfl (fun _ _ => r_arr_h (n := 16) (es := 1) rfl rfl arr57 (by decide) (by decide)) ?_
          refine OW.act rfl rfl rfl (r_copyL (g := db) (o := 17) (b := xb) (so := 0) (m := 8) (f := (fun i => .int .u32 ((compF d.ch d.bl d.ctr d.blen d.fl) i))) rfl rfl slc79 rfl hD1.drew (by decide) (fun i hi => by rw [hX1.drew.cell (by omega), put_at _ _ (by omega)]) (fun _ _ => rfl)) trivial ?_
          refine OW.nil (CW.fresh [(0, .pointer (some ⟨hb, 1, none⟩)), (1, .pointer (some ⟨db, 0, none⟩)), (8, .pointer (some ⟨xb, 0, none⟩)), (9, .int .u64 ((o : Nat) : Int)), (10, .int .u64 ((colF T o : Nat) : Int))] ⟨rfl, rfl, rfl, rfl, rfl, trivial⟩ (φ := (fun w' => Mod [hb, db] w w' ∧ Blk w' hb 8854 (hh n1 c1 K B1 s2) 56 ∧ Blk w' db 44 (dg (mgB s2 T o d)) 59 ∧ ∃ cX, Blk w' xb 16 (put cX 0 16 (fun i => .int .u32 ((compF d.ch d.bl d.ctr d.blen d.fl) i))) 57)) ⟨hM1.drewR.old hMP (by simp), hMP.blk hB1.drew (by simpa using hne), hD2, cX, hMP.blk hX1.drew (by simpa using Ne.symm hDX)⟩ ?_)
          clear hM1 hB1 hD1 hX1 hMP hD2 cX w2 J
          rintro J w2 ⟨hM1, hB1, hD1, cX, hX1⟩
          first | refine CW.seq (CW.region ?_) | refine CW.seq (CW.seq (CW.region ?_))
          refine LW.val rfl rfl (r_move) ?_
          refine LW.val rfl rfl (r_move) ?_
          refine LW.val rfl rfl (r_nil rfl) ?_
          refine LW.val rfl rfl (r_field rfl fa54_4) ?_
          refine LW.val rfl rfl (r_field rfl fa51_0) ?_
          refine LW.val rfl rfl (r_load (a := ⟨hb, 12, none⟩) (v := .int .u64 ((s2.occ : Nat) : Int)) rfl one45 (hB1.cell (by decide))) ?_
          refine LW.val rfl rfl (r_eqlE rfl rfl (q := decide (o = s2.occ)) (by by_cases h : o = s2.occ <;> simp [h] <;> omega)) ?_
          refine LW.nil ?_
          refine CW.cut [(0, .pointer (some ⟨hb, 1, none⟩)), (1, .pointer (some ⟨db, 0, none⟩)), (8, .pointer (some ⟨xb, 0, none⟩)), (9, .int .u64 ((o : Nat) : Int))] (fun w' => Mod [hb, db] w w' ∧ Blk w' hb 8854 (hh n1 c1 K B1 s2) 56 ∧ Blk w' db 44 (dg (mgS K s2 T o d)) 59 ∧ ∃ cX, Blk w' xb 16 cX 57) ?_ ?_
          · refine CW.cond (b := decide (o = s2.occ)) rfl (fun h => ?_) (fun h => ?_)
            · have h := of_decide_eq_true h
              have hmS : mgS K s2 T o d = { mgB s2 T o d with ch := K, ctr := 0, blen := 64, fl := bw .or .u32 0 4 } := if_pos h
              first | refine CW.seq (CW.region ?_) | refine CW.seq (CW.seq (CW.region ?_))
              refine LW.val rfl rfl (r_move) ?_
              refine LW.val rfl rfl (r_move) ?_
              refine LW.val rfl rfl (r_nil rfl) ?_
              refine LW.val rfl rfl (r_field rfl fa54_3) ?_
              refine LW.val rfl rfl (r_loadA (m := 8) (f := fun j => .int .u32 (K j)) rfl agg44 (fun j hj => by rw [hB1.cell (i := 4 + j) (by omega), hh_key _ _ _ _ _ hj])) ?_
              refine LW.val rfl rfl (r_nil rfl) ?_
              refine LW.val rfl rfl (r_field rfl fa59_1) ?_
              refine LW.eff rfl rfl (r_storeA (m := 8) (f := fun j => .int .u32 (K j)) rfl rfl agg44 (fun _ _ => rfl) hD1 (by decide)) ?_
              have hMP := Mod.putC w2 db 1 8 (fun j => .int .u32 (K j))
              have hD2 := hD1.putC (o := 1) (m := 8) (f := fun j => .int .u32 (K j)) (by decide)
              rw [dg_setCh] at hD2
              have hB2 := hMP.blk hB1 (by simpa using hne)
              have hX2 := hMP.blk hX1 (by simpa using Ne.symm hDX)
              have hM2 := hM1.old hMP (by simp)
              refine LW.nil ?_
              first | refine CW.seq (CW.region ?_) | refine CW.seq (CW.seq (CW.region ?_))
              refine LW.val rfl rfl (r_move) ?_
              refine LW.val rfl rfl (r_nil rfl) ?_
              refine LW.val rfl rfl (r_field rfl fa59_0) ?_
              refine LW.eff rfl rfl (r_storeB (i := 0) rfl rfl one45 rfl hD2 (by decide)) ?_
              have hD3 := hD2.set (i := 0) (.int .u64 ((0 : Nat) : Int)) (by decide)
              rw [dg_setCtr] at hD3
              have hMS := Mod.set (putC w2 db 1 8 (fun j => .int .u32 (K j))) db 0 (.int .u64 ((0 : Nat) : Int))
              have hB3 := hMS.blk hB2 (by simpa using hne)
              have hX3 := hMS.blk hX2 (by simpa using Ne.symm hDX)
              have hM3 := hM2.old hMS (by simp)
              refine LW.nil ?_
              first | refine CW.seq (CW.region ?_) | refine CW.seq (CW.seq (CW.region ?_))
              refine LW.val rfl rfl (r_move) ?_
              refine LW.val rfl rfl (r_nil rfl) ?_
              refine LW.val rfl rfl (r_field rfl fa59_3) ?_
              refine LW.eff rfl rfl (r_storeB (i := 25) rfl rfl one43 rfl hD3 (by decide)) ?_
              have hD4 := hD3.set (i := 25) (.int .u32 64) (by decide)
              rw [dg_setBlen] at hD4
              have hMS2 := Mod.set ((putC w2 db 1 8 (fun j => .int .u32 (K j))).setCell ⟨db, 0, none⟩ (.int .u64 ((0 : Nat) : Int))) db 25 (.int .u32 64)
              have hB4 := hMS2.blk hB3 (by simpa using hne)
              have hX4 := hMS2.blk hX3 (by simpa using Ne.symm hDX)
              have hM4 := hM3.old hMS2 (by simp)
              refine LW.nil ?_
              refine CW.region ?_
              refine LW.val rfl rfl (r_move) ?_
              refine LW.val rfl rfl (r_move) ?_
              refine LW.val rfl rfl (r_nil rfl) ?_
              refine LW.val rfl rfl (r_field rfl fa54_2) ?_
              refine LW.val rfl rfl (r_load (a := ⟨hb, 3, none⟩) (v := .int .u32 0) rfl one43 (hB4.cell (by decide))) ?_
              refine LW.val rfl rfl (r_or rfl rfl) ?_
              refine LW.val rfl rfl (r_nil rfl) ?_
              refine LW.val rfl rfl (r_field rfl fa59_4) ?_
              refine LW.eff rfl rfl (r_storeB (i := 26) rfl rfl one43 rfl hD4 (by decide)) ?_
              have hD5 := hD4.set (i := 26) (.int .u32 (bw .or .u32 0 4)) (by decide)
              rw [dg_setFl] at hD5
              exact LW.nil ⟨⟨rfl, rfl, rfl, rfl, trivial⟩, hM4.old (Mod.set _ db _ _) (by simp), (Mod.set _ db _ _).blk hB4 (by simpa using hne), by rw [hmS]; exact hD5, _, (Mod.set _ db _ _).blk hX4 (by simpa using Ne.symm hDX)⟩
            · have h := of_decide_eq_false h
              have hmS : mgS K s2 T o d = mgB s2 T o d := if_neg h
              exact CW.skip ⟨⟨rfl, rfl, rfl, rfl, trivial⟩, hM1, hB1, by rw [hmS]; exact hD1, _, hX1⟩
          clear hM1 hB1 hD1 hX1 cX w2 J
          rintro J w2 ⟨hM1, hB1, hD1, cX, hX1⟩
          refine CW.region ?_
          refine LW.val rfl rfl (r_move) ?_
          refine LW.val rfl rfl (r_move) ?_
          refine LW.val rfl rfl (r_subE rfl rfl (wN (m := o - 1) (by omega) (by omega))) ?_
          refine LW.val rfl rfl (r_andE rfl rfl (bw_u64 ho (by omega)).1) ?_
          refine LW.val rfl rfl (r_assign) ?_
          exact LW.nil ⟨o &&& (o - 1), by have := and_pred_lt h0; omega, _, _, _, rfl, Nat.lt_trans (and_pred_lt h0) ho, by rw [mgF_step _ _ _ h0] at hmg; exact hmg, (tab_of_agrees (α := Value) _ [(0, .pointer (some ⟨hb, 1, none⟩)), (1, .pointer (some ⟨db, 0, none⟩)), (8, .pointer (some ⟨xb, 0, none⟩)), (9, .int .u64 (((o &&& (o - 1)) : Nat) : Int))] ⟨rfl, rfl, rfl, rfl, trivial⟩).symm, hM1, hB1, hD1, cX, hX1⟩
end Go.Proofs.YtfaopfaghnefdaaDoor
