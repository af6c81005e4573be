/- compressAll: at most 1024 bytes in one shot. Conditions: a new digest; the bytes lie in another block. -/
import Derived.Test.YtfaopfaghnefdaaDoorDig
namespace Go.Proofs.YtfaopfaghnefdaaDoor
open Go
theorem en25 : Enters Tryd.prog 25 := ⟨_, Tryd.func25, by kernel_rfl, rfl⟩
theorem s64 {P : Program} {ρ : Operand → Value} {w : World} {dst : Option Tmp} {ty : TypeId} {pos : String} {af : Array Edge} {gd : Option (Nat × Bool)} {x lo : Operand} {t b o n c k : Nat} (hx : ρ x = .slice (some ⟨b, o + 64 * k, none⟩) (n - 64 * k) (c - 64 * k)) (hl : ρ lo = .int .i64 64) (ht : SlcAt P t 1) (h1 : 64 ≤ n - 64 * k) (h2 : 64 < c - 64 * k) :
    (execOp ρ ⟨dst, .slice t x (some lo) none none, ty, pos, af, gd⟩).run P w = .ok (.value (.slice (some ⟨b, o + 64 * (k + 1), none⟩) (n - 64 * (k + 1)) (c - 64 * (k + 1)))) w := by
  rw [r_slc_l hx hl ht (by decide) (by omega) (by omega), show n - 64 * (k + 1) = n - 64 * k - 64 by omega, show c - 64 * (k + 1) = c - 64 * k - 64 by omega, show o + 64 * (k + 1) = o + 64 * k + 64 by omega]
  rfl
def DS0 : DS := ⟨0, fun _ => 0, fun _ => 0, 0, 0, fun _ => 0, 0⟩
def caFl : Nat → Int
  | 0 => bw .or .u32 0 1
  | k + 1 => bw .andNot .u32 (caFl k) 1
def caC (K D : Nat → Int) : Nat → Nat → Int
  | 0 => K
  | k + 1 => compF (caC K D k) (b2w fun j => D (64 * k + j)) 0 64 (caFl k)
def caQ (n : Nat) : Nat := (n - 1) / 64
def caF (K D : Nat → Int) (n : Nat) : DS :=
  { DS0 with ch := caC K D (caQ n), bl := b2w (fun j => if j < n - 64 * caQ n then D (64 * caQ n + j) else 0), blen := ((n - 64 * caQ n : Nat) : Int), fl := bw .or .u32 (caFl (caQ n)) 10 }
set_option maxHeartbeats 4000000 in
theorem call_any (db hb n : Nat) (K D : Nat → Int) (w : World) (hB : Blk w db 44 (dg DS0) 59) (hD : Rd w hb 662 8192 .u8 D) (hne : hb ≠ db) (hn : n ≤ 1024) :
    Calls Tryd.prog 25 #[.pointer (some ⟨db, 0, none⟩), .slice (some ⟨hb, 662, none⟩) n 8192, .int .u32 0, aggF 8 (fun j => .int .u32 (K j))] w fun e w' => e = .returned (.tuple #[]) ∧ Mod [db] w w' ∧ Blk w' db 44 (dg (caF K D n)) 59 := by
  refine calls_of_CW (l := [_, _, _, _]) (N := 76) Tryd.func25 rfl rfl rfl ?_
  first | refine CW.seq (CW.region ?_) | refine CW.seq (CW.seq (CW.region ?_))
  refine LW.val rfl rfl (r_box (v := aggF 8 (fun j => .int .u32 (K j))) (n := 8) (f := fun j => .int .u32 (K j)) rfl rfl) ?_
  refine LW.nil ?_
  have hMA := Mod.alloc w (.cells (Array.ofFn (n := 8) fun i => (fun j => Value.int .u32 (K j)) i.val) 44)
  have hK0 := Blk.new w 8 (fun j => Value.int .u32 (K j)) 44
  obtain ⟨kb, hkb⟩ : ∃ kb, kb = w.heap.size := ⟨_, rfl⟩
  rw [← hkb] at hK0 ⊢
  have hDK : db ≠ kb := hB.ne (by omega)
  have hHK : hb ≠ kb := hD.ne (by decide) (by omega)
  have hB1 := hMA.blk hB (by simp)
  have hM1 := (Mod.refl [db] w).none hMA
  obtain ⟨w1, hw1⟩ : ∃ w1, w1 = w.alloc (.cells (Array.ofFn (n := 8) fun i => (fun j => Value.int .u32 (K j)) i.val) 44) := ⟨_, rfl⟩
  rw [← hw1] at hK0 hB1 hM1 ⊢
  clear hw1 hMA
  first | refine CW.seq (CW.region ?_) | refine CW.seq (CW.seq (CW.region ?_))
  refine LW.val rfl rfl (r_alloc zeroF57) ?_
  refine LW.nil ?_
  have hMA := Mod.alloc w1 (.cells (Array.ofFn (n := 16) fun i => (fun _ => Value.int .u32 0) i.val) 57)
  have hX0 := Blk.new w1 16 (fun _ => Value.int .u32 0) 57
  obtain ⟨xb, hxb⟩ : ∃ xb, xb = w1.heap.size := ⟨_, rfl⟩
  rw [← hxb] at hX0 ⊢
  have hDX : db ≠ xb := hB1.ne (by omega)
  have hwx : w.heap.size ≤ xb := by have := hM1.size; omega
  have hB2 := hMA.blk hB1 (by simp)
  have hK2 := hMA.blk hK0 (by simp)
  have hM2 := hM1.none hMA
  obtain ⟨w2, hw2⟩ : ∃ w2, w2 = w1.alloc (.cells (Array.ofFn (n := 16) fun i => (fun _ => Value.int .u32 0) i.val) 57) := ⟨_, rfl⟩
  rw [← hw2] at hX0 hB2 hK2 hM2 ⊢
  clear hw2 hMA hK0 hB1 hM1
  first | refine CW.seq (CW.region ?_) | refine CW.seq (CW.seq (CW.region ?_))
  refine LW.val rfl rfl (r_move) ?_
  refine LW.val rfl rfl (r_loadA (m := 8) (f := fun j => .int .u32 (K j)) rfl agg44 (fun j hj => by rw [hK2.cell (by omega), Nat.zero_add])) ?_
  refine LW.val rfl rfl (r_nil rfl) ?_
  refine LW.val rfl rfl (r_field rfl fa59_1) ?_
  refine LW.eff rfl rfl (r_storeA (m := 8) (f := fun j => .int .u32 (K j)) rfl rfl agg44 (fun _ _ => rfl) hB2 (by decide)) ?_
  have hMP := Mod.putC w2 db 1 8 (fun j => .int .u32 (K j))
  have hB3 := hB2.putC (o := 1) (m := 8) (f := fun j => .int .u32 (K j)) (by decide)
  rw [dg_setCh] at hB3
  have hX3 := hMP.blk hX0 (by simpa using Ne.symm hDX)
  have hM3 := hM2.old hMP (by simp)
  obtain ⟨w3, hw3⟩ : ∃ w3, w3 = putC w2 db 1 8 (fun j => .int .u32 (K j)) := ⟨_, rfl⟩
  refine LW.nil ?_
  first | refine CW.seq (CW.region ?_) | refine CW.seq (CW.seq (CW.region ?_))
  refine LW.val rfl rfl (r_move) ?_
  refine LW.val rfl rfl (r_move) ?_
  refine LW.val rfl rfl (r_or rfl rfl) ?_
  refine LW.val rfl rfl (r_nil rfl) ?_
  refine LW.val rfl rfl (r_field rfl fa59_4) ?_
  refine LW.eff rfl rfl (r_storeB (i := 26) rfl rfl one43 rfl hB3 (by decide)) ?_
  have hB4 := hB3.set (i := 26) (.int .u32 (caFl 0)) (by decide)
  rw [dg_setFl] at hB4
  have hMS := Mod.set (putC w2 db 1 8 (fun j => .int .u32 (K j))) db 26 (.int .u32 (caFl 0))
  have hP : (fun w' => Mod [db] w w' ∧ Blk w' db 44 (dg { DS0 with ch := caC K D 0, bl := fun _ => 0, fl := caFl 0 }) 59 ∧ ∃ cX, Blk w' xb 16 cX 57) _ := ⟨hM3.old hMS (by simp), hB4, _, hMS.blk hX3 (by simpa using Ne.symm hDX)⟩
  clear hw3 w3 hM2 hM3 hB2 hB3 hB4 hX0 hX3 hMP hMS hK2
  have hq : caQ n = (n - 1) / 64 := rfl
  refine LW.nil ?_
  refine CW.seq (CW.block (CW.loop (fun m E w' => ∃ (k : Nat) (J : Env) (bl : Nat → Int), k + m = caQ n ∧ E = tab (α := Value) J [(0, .pointer (some ⟨db, 0, none⟩)), (1, .slice (some ⟨hb, 662 + 64 * k, none⟩) (n - 64 * k) (8192 - 64 * k)), (8, .pointer (some ⟨xb, 0, none⟩))] ∧ (fun w' => Mod [db] w w' ∧ Blk w' db 44 (dg { DS0 with ch := caC K D k, bl := bl, fl := caFl k }) 59 ∧ ∃ cX, Blk w' xb 16 cX 57) w') (caQ n) ?_ ?_))
  · exact ⟨0, _, _, by omega, (tab_of_agrees (α := Value) _ [(0, .pointer (some ⟨db, 0, none⟩)), (1, .slice (some ⟨hb, 662 + 64 * 0, none⟩) (n - 64 * 0) (8192 - 64 * 0)), (8, .pointer (some ⟨xb, 0, none⟩))] ⟨rfl, rfl, rfl, trivial⟩).symm, hP⟩
  · clear hP
    rintro m E w1 ⟨k, J, bl, hk, rfl, hM, hB1, cX, hX1⟩
    by_cases hgt : 64 < n - 64 * k
    · first | refine CW.seq (CW.region ?_) | refine CW.seq (CW.seq (CW.region ?_))
      refine LW.val rfl rfl (r_move) ?_
      refine LW.val rfl rfl (r_lenL (n := n - 64 * k) rfl Tryd.underlying22) ?_
      refine LW.val rfl rfl (r_gtrE rfl rfl (q := true) (decide_eq_true (by omega))) ?_
      refine LW.nil ?_
      first | refine CW.cond_t rfl (CW.skip ?_) | refine CW.seq (CW.cond_t rfl (CW.skip ?_))
      refine CW.block ?_
      first | refine CW.seq (CW.region ?_) | refine CW.seq (CW.seq (CW.region ?_))
      refine LW.val rfl rfl (r_move) ?_
      refine LW.val rfl rfl (r_s2a rfl Tryd.underlying72 (by omega)) ?_
      refine LW.val rfl rfl (r_assign) ?_
      refine LW.nil ?_
      first | refine CW.seq (CW.region ?_) | refine CW.seq (CW.seq (CW.region ?_))
      refine LW.val rfl rfl (r_assign) ?_
      refine LW.nil ?_
      first | refine CW.seq (CW.region ?_) | refine CW.seq (CW.seq (CW.region ?_))
      refine LW.val rfl rfl (r_move) ?_
      refine LW.val rfl rfl (r_nil rfl) ?_
      refine LW.val rfl rfl (r_field rfl fa59_2) ?_
      refine LW.val rfl rfl (r_assign) ?_
      refine LW.nil ?_
      first | refine CW.seq (CW.region ?_) | refine CW.seq (CW.seq (CW.region ?_))
      refine LW.val rfl rfl (r_move) ?_
      refine LW.val rfl rfl (r_move) ?_
      refine LW.call rfl rfl (e_call en28) ?_
      refine (b2w_any hb (662 + 64 * k) db 9 44 _ 59 (fun j => D (64 * k + j)) w1 (fun j hj => by rw [Nat.add_assoc 662]; exact hM.rd hD (by simpa using hne) (64 * k + j) (by omega)) hne hB1 (by decide)).mono ?_
      rintro e w2 ⟨rfl, hM2, hB2⟩
      rw [dg_setBl] at hB2
      refine ⟨_, rfl, ?_⟩
      refine LW.nil (CW.fresh [(0, .pointer (some ⟨db, 0, none⟩)), (1, .slice (some ⟨hb, 662 + 64 * k, none⟩) (n - 64 * k) (8192 - 64 * k)), (8, .pointer (some ⟨xb, 0, none⟩)), (10, .pointer (some ⟨db, 9, none⟩))] ⟨rfl, rfl, rfl, rfl, trivial⟩ (φ := (fun w' => Mod [db] w w' ∧ Blk w' db 44 (dg { DS0 with ch := caC K D k, bl := b2w (fun j => D (64 * k + j)), fl := caFl k }) 59 ∧ ∃ cX, Blk w' xb 16 cX 57)) ⟨hM.old hM2 (by simp), hB2, cX, hM2.blk hX1 (by simpa using Ne.symm hDX)⟩ ?_)
      clear hM hM2 hB1 hB2 hX1 cX w1 w2 J bl
      rintro J w1 ⟨hM, hB1, cX, hX1⟩
      have hS : (fun w => w.cell? ⟨db, 26, none⟩ = some (.int .u32 (caFl k))) w1.drew := hB1.drew.cell (i := 26) (by decide)
      refine CW.seq (CW.drawn (fun w => w.cell? ⟨db, 26, none⟩ = some (.int .u32 (caFl k))) [(0, true), (1, true), (2, true), (3, true), (4, true), (5, true), (6, true), (7, true), (8, false)] mixed (by kernel_rfl) (by kernel_rfl) ?_)
      refine OW.val hS rfl rfl rfl (fun _ _ => r_move) ?_
      refine OW.val hS rfl rfl rfl (fun _ _ => r_nil rfl) ?_
      refine OW.val hS rfl rfl rfl (fun _ _ => r_field rfl fa59_1) ?_
      refine OW.val hS rfl rfl rfl (fun _ _ => r_move) ?_
      refine OW.val hS rfl rfl rfl (fun _ _ => r_move) ?_
      refine OW.val hS rfl rfl rfl (fun _ _ => r_nil rfl) ?_
      refine OW.val hS rfl rfl rfl (fun _ _ => r_field rfl fa59_4) ?_
      refine OW.val hS rfl rfl rfl (fun _ hS => r_load (a := ⟨db, 26, none⟩) rfl one43 hS) ?_
      refine OW.call rfl rfl rfl (e_call en31) ?_
      refine (comp31_any db 1 db 9 xb 0 16 cX 57 (caC K D k) (b2w (fun j => D (64 * k + j))) 0 64 (caFl k) _ (hB1.drew.rd (by decide) (fun i hi => dg_ch _ hi)) (hB1.drew.rd (by decide) (fun i hi => dg_bl _ hi)) hX1.drew (by decide) (Or.inl hDX) (Or.inl hDX)).mono ?_
      rintro e w2 ⟨rfl, hM2, hX2⟩
      have hB2 := hM2.blk hB1.drew (by simpa using hDX)
      refine ⟨_, rfl, hB2.cell (i := 26) (by decide), ?_⟩
      refine OW.nil ?_
      first | refine CW.seq (CW.region ?_) | refine CW.seq (CW.seq (CW.region ?_))
      refine LW.val rfl rfl (r_move) ?_
      refine LW.val rfl rfl (r_arr_all rfl arr57) ?_
      refine LW.val rfl rfl (r_s2a rfl Tryd.underlying44 (by decide)) ?_
      refine LW.val rfl rfl (r_loadA (m := 8) (f := fun j => .int .u32 (caC K D (k + 1) j)) rfl agg44 (fun j hj => by rw [hX2.cell (by omega), put_at _ _ (by omega)]; rfl)) ?_
      refine LW.val rfl rfl (r_nil rfl) ?_
      refine LW.val rfl rfl (r_field rfl fa59_1) ?_
      refine LW.eff rfl rfl (r_storeA (m := 8) (f := fun j => .int .u32 (caC K D (k + 1) j)) rfl rfl agg44 (fun _ _ => rfl) hB2 (by decide)) ?_
      have hMP := Mod.putC w2 db 1 8 (fun j => .int .u32 (caC K D (k + 1) j))
      have hB3 := hB2.putC (o := 1) (m := 8) (f := fun j => .int .u32 (caC K D (k + 1) j)) (by decide)
      rw [dg_setCh] at hB3
      have hX3 := hMP.blk hX2 (by simpa using Ne.symm hDX)
      have hM3 := (hM.drewR.fresh hM2 hwx).old hMP (by simp)
      refine LW.nil ?_
      first | refine CW.seq (CW.region ?_) | refine CW.seq (CW.seq (CW.region ?_))
      refine LW.val rfl rfl (r_move) ?_
      refine LW.val rfl rfl (r_nil rfl) ?_
      refine LW.val rfl rfl (r_field rfl fa59_4) ?_
      refine LW.val rfl rfl (r_load (a := ⟨db, 26, none⟩) (v := .int .u32 (caFl k)) rfl one43 (hB3.cell (by decide))) ?_
      refine LW.val rfl rfl (r_andNot rfl rfl) ?_
      refine LW.val rfl rfl (r_nil rfl) ?_
      refine LW.val rfl rfl (r_field rfl fa59_4) ?_
      refine LW.eff rfl rfl (r_storeB (i := 26) rfl rfl one43 rfl hB3 (by decide)) ?_
      have hB4 := hB3.set (i := 26) (.int .u32 (caFl (k + 1))) (by decide)
      rw [dg_setFl] at hB4
      have hMS := Mod.set (putC w2 db 1 8 (fun j => .int .u32 (caC K D (k + 1) j))) db 26 (.int .u32 (caFl (k + 1)))
      refine LW.nil ?_
      refine CW.region ?_
      refine LW.val rfl rfl (r_move) ?_
      refine LW.val rfl rfl (s64 (n := n) (k := k) (o := 662) (c := 8192) rfl rfl slc22 (by omega) (by omega)) ?_
      refine LW.val rfl rfl (r_assign) ?_
      exact LW.nil ⟨m - 1, by omega, k + 1, _, _, by omega, (tab_of_agrees (α := Value) _ [(0, .pointer (some ⟨db, 0, none⟩)), (1, .slice (some ⟨hb, 662 + 64 * (k + 1), none⟩) (n - 64 * (k + 1)) (8192 - 64 * (k + 1))), (8, .pointer (some ⟨xb, 0, none⟩))] ⟨rfl, rfl, rfl, trivial⟩).symm, hM3.old hMS (by simp), hB4, _, hMS.blk hX3 (by simpa using Ne.symm hDX)⟩
    · have hkq : k = caQ n := by omega
      first | refine CW.seq (CW.region ?_) | refine CW.seq (CW.seq (CW.region ?_))
      refine LW.val rfl rfl (r_move) ?_
      refine LW.val rfl rfl (r_lenL (n := n - 64 * k) rfl Tryd.underlying22) ?_
      refine LW.val rfl rfl (r_gtrE rfl rfl (q := false) (decide_eq_false (by omega))) ?_
      refine LW.nil ?_
      first | refine CW.seq (CW.cond_f rfl (CW.exit (Or.inl ⟨rfl, ?_⟩))) | refine CW.cond_f rfl (CW.exit (Or.inl ⟨rfl, ?_⟩))
      first | refine CW.seq (CW.region ?_) | refine CW.seq (CW.seq (CW.region ?_))
      refine LW.val rfl rfl (r_alloc zeroF72) ?_
      refine LW.nil ?_
      have hMA := Mod.alloc w1 (.cells (Array.ofFn (n := 64) fun i => (fun _ => Value.int .u8 0) i.val) 72)
      have hT0 := Blk.new w1 64 (fun _ => Value.int .u8 0) 72
      obtain ⟨tb, htb⟩ : ∃ tb, tb = w1.heap.size := ⟨_, rfl⟩
      rw [← htb] at hT0 ⊢
      have hDT : db ≠ tb := hB1.ne (by omega)
      have hwt : w.heap.size ≤ tb := by have := hM.size; omega
      have hB2 := hMA.blk hB1 (by simp)
      have hM2 := hM.none hMA
      obtain ⟨w2, hw2⟩ : ∃ w2, w2 = w1.alloc (.cells (Array.ofFn (n := 64) fun i => (fun _ => Value.int .u8 0) i.val) 72) := ⟨_, rfl⟩
      rw [← hw2] at hT0 hB2 hM2 ⊢
      clear hw2 hMA
      have hD2 := hM2.rd hD (by simpa using hne)
      first | refine CW.seq (CW.region ?_) | refine CW.seq (CW.seq (CW.region ?_))
      refine LW.val rfl rfl (r_arr_all rfl arr72) ?_
      refine LW.val rfl rfl (r_move) ?_
      refine LW.val rfl rfl (r_copyL (g := tb) (o := 0) (b := hb) (so := 662 + 64 * k) (m := n - 64 * k) (f := (fun i => .int .u8 (D (64 * k + i)))) rfl rfl slc22 (Nat.min_eq_left (by omega)) hT0 (by omega) (fun i hi => by rw [Nat.add_assoc 662]; exact hD2 (64 * k + i) (by omega)) (fun _ _ => rfl)) ?_
      have hMP := Mod.putC w2 tb 0 (n - 64 * k) (fun i => .int .u8 (D (64 * k + i)))
      have hT1 := hT0.putC (o := 0) (m := n - 64 * k) (f := (fun i => .int .u8 (D (64 * k + i)))) (by omega)
      have hB3 := hMP.blk hB2 (by simpa using hDT)
      have hM3 := hM2.fresh hMP hwt
      have hTR : Rd (putC w2 tb 0 (n - 64 * k) (fun i => .int .u8 (D (64 * k + i)))) tb 0 64 .u8 (fun j => if j < n - 64 * k then D (64 * k + j) else 0) := hT1.rd (by decide) (fun i hi => by
          by_cases hi2 : i < n - 64 * k
          · rw [put_in _ _ (by omega), if_pos hi2, Nat.zero_add, Nat.sub_zero]
          · rw [put_out _ _ (by omega), if_neg hi2])
      refine LW.nil ?_
      first | refine CW.seq (CW.region ?_) | refine CW.seq (CW.seq (CW.region ?_))
      refine LW.val rfl rfl (r_move) ?_
      refine LW.val rfl rfl (r_nil rfl) ?_
      refine LW.val rfl rfl (r_field rfl fa59_2) ?_
      refine LW.call rfl rfl (e_call en28) ?_
      refine (b2w_any tb 0 db 9 44 _ 59 (fun j => if j < n - 64 * k then D (64 * k + j) else 0) _ hTR (Ne.symm hDT) hB3 (by decide)).mono ?_
      rintro e w4 ⟨rfl, hM4, hB4⟩
      rw [dg_setBl] at hB4
      refine ⟨_, rfl, ?_⟩
      refine LW.nil ?_
      first | refine CW.seq (CW.region ?_) | refine CW.seq (CW.seq (CW.region ?_))
      refine LW.val rfl rfl (r_move) ?_
      refine LW.val rfl rfl (r_move) ?_
      refine LW.val rfl rfl (r_lenL (n := n - 64 * k) rfl Tryd.underlying22) ?_
      refine LW.val rfl rfl (r_convE int3 int43 rfl (z := ((n - 64 * k : Nat) : Int)) (by rw [wrap_u32 (by omega) (by omega)])) ?_
      refine LW.val rfl rfl (r_nil rfl) ?_
      refine LW.val rfl rfl (r_field rfl fa59_3) ?_
      refine LW.eff rfl rfl (r_storeB (i := 25) rfl rfl one43 rfl hB4 (by decide)) ?_
      have hB5 := hB4.set (i := 25) (.int .u32 ((n - 64 * k : Nat) : Int)) (by decide)
      rw [dg_setBlen] at hB5
      refine LW.nil ?_
      refine CW.region ?_
      refine LW.val rfl rfl (r_move) ?_
      refine LW.val rfl rfl (r_nil rfl) ?_
      refine LW.val rfl rfl (r_field rfl fa59_4) ?_
      refine LW.val rfl rfl (r_load (a := ⟨db, 26, none⟩) (v := .int .u32 (caFl k)) rfl one43 (hB5.cell (by decide))) ?_
      refine LW.val rfl rfl (r_or rfl rfl) ?_
      refine LW.val rfl rfl (r_nil rfl) ?_
      refine LW.val rfl rfl (r_field rfl fa59_4) ?_
      refine LW.eff rfl rfl (r_storeB (i := 26) rfl rfl one43 rfl hB5 (by decide)) ?_
      have hB6 := hB5.set (i := 26) (.int .u32 (bw .or .u32 (caFl k) 10)) (by decide)
      rw [dg_setFl] at hB6
      subst hkq
      exact LW.nil ⟨_, RetV.none rfl, rfl, ((hM3.old hM4 (by simp)).old (Mod.set _ db _ _) (by simp)).old (Mod.set _ db _ _) (by simp), hB6⟩
end Go.Proofs.YtfaopfaghnefdaaDoor
