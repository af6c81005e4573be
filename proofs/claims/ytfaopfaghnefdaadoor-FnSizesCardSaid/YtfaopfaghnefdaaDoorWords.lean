/- putLE32, BytesToWords, WordsToBytes: bytes and words. Conditions: the cells are there; what is written is a block of its own. -/
import Derived.Test.YtfaopfaghnefdaaDoorLe
import Derived.Test.YtfaopfaghnefdaaDoorMem
namespace Go.Proofs.YtfaopfaghnefdaaDoor
open Go
theorem sz43 : SizeIs Tryd.prog 43 1 := (by kernel_rfl : (Tryd.prog.info? 43).map (·.size) = some 1)
theorem one43 : OneC Tryd.prog 43 := ⟨_, Tryd.underlying43, rfl, sz43⟩
theorem arr57 : ArrAt Tryd.prog 57 16 1 := ⟨43, Tryd.underlying57, sz43⟩
theorem arr72 : ArrAt Tryd.prog 72 64 1 := ⟨5, Tryd.underlying72, sz5⟩
theorem en32 : Enters Tryd.prog 32 := ⟨_, Tryd.func32, by kernel_rfl, rfl⟩
theorem en36 : Enters Tryd.prog 36 := ⟨_, Tryd.func36, by kernel_rfl, rfl⟩
/-- The bytes of a word, the least first. -/
def byteW (x : Int) : Nat → Value
  | 0 => .int .u8 (IntKind.u8.wrap x)
  | 1 => .int .u8 (IntKind.u8.wrap (x.fdiv (2 ^ 8)))
  | 2 => .int .u8 (IntKind.u8.wrap (x.fdiv (2 ^ 16)))
  | _ => .int .u8 (IntKind.u8.wrap (x.fdiv (2 ^ 24)))
theorem upd4 (c : Nat → Value) (o : Nat) (f : Nat → Value) : upd (upd (upd (upd c (o + 0) (f 0)) (o + 1) (f 1)) (o + 2) (f 2)) (o + 3) (f 3) = put c o 4 f := by
  rw [show upd c (o + 0) (f 0) = put c o 1 f from by have := put_snoc c o 0 f (f 0) rfl; rwa [put_zero] at this,
    put_snoc c o 1 f _ rfl, put_snoc c o 2 f _ rfl, put_snoc c o 3 f _ rfl]
theorem put32_any (b o n cp nb : Nat) (cb : Nat → Value) (tb : TypeId) (x : Int) (w : World) (hn : 4 ≤ n) (hB : Blk w b nb cb tb) (ho : o + 4 ≤ nb) :
    Calls Tryd.prog 32 #[.slice (some ⟨b, o, none⟩) n cp, .int .u32 x] w fun e w' => e = .returned (.tuple #[]) ∧ Mod [b] w w' ∧ Blk w' b nb (put cb o 4 (byteW x)) tb := by
  refine calls_of_CW (l := [_, _]) (N := 23) Tryd.func32 rfl rfl rfl ?_
  refine CW.region ?_
  refine LW.val rfl rfl (r_move) ?_
  refine LW.val rfl rfl (r_move) ?_
  refine LW.val rfl rfl (r_move) ?_
  refine LW.val rfl rfl (r_move) ?_
  refine LW.val rfl rfl (r_move) ?_
  refine LW.val rfl rfl (r_conv int43 int5 rfl) ?_
  refine LW.val rfl rfl (r_move) ?_
  refine LW.val rfl rfl (r_shr rfl rfl (by decide)) ?_
  refine LW.val rfl rfl (r_conv int43 int5 rfl) ?_
  refine LW.val rfl rfl (r_move) ?_
  refine LW.val rfl rfl (r_shr rfl rfl (by decide)) ?_
  refine LW.val rfl rfl (r_conv int43 int5 rfl) ?_
  refine LW.val rfl rfl (r_move) ?_
  refine LW.val rfl rfl (r_shr rfl rfl (by decide)) ?_
  refine LW.val rfl rfl (r_conv int43 int5 rfl) ?_
  refine LW.val rfl rfl (r_index_slc rfl rfl slc22 (by decide) (by omega)) ?_
  refine LW.eff rfl rfl (r_storeB rfl rfl one5 rfl hB (by omega)) ?_
  have hB1 := hB.set (i := o + 0) (byteW x 0) (by omega)
  refine LW.val rfl rfl (r_index_slc rfl rfl slc22 (by decide) (by omega)) ?_
  refine LW.eff rfl rfl (r_storeB rfl rfl one5 rfl hB1 (by omega)) ?_
  have hB2 := hB1.set (i := o + 1) (byteW x 1) (by omega)
  refine LW.val rfl rfl (r_index_slc rfl rfl slc22 (by decide) (by omega)) ?_
  refine LW.eff rfl rfl (r_storeB rfl rfl one5 rfl hB2 (by omega)) ?_
  have hB3 := hB2.set (i := o + 2) (byteW x 2) (by omega)
  refine LW.val rfl rfl (r_index_slc rfl rfl slc22 (by decide) (by omega)) ?_
  refine LW.eff rfl rfl (r_storeB rfl rfl one5 rfl hB3 (by omega)) ?_
  have hB4 := hB3.set (i := o + 3) (byteW x 3) (by omega)
  refine LW.nil ⟨_, RetV.none rfl, rfl, ?_, (congrArg (fun c => Blk _ b nb c tb) (upd4 cb o (byteW x))).mp hB4⟩
  exact (((Mod.set w b _ _).trans (Mod.set _ b _ _) (by simp)).trans (Mod.set _ b _ _) (by simp)).trans (Mod.set _ b _ _) (by simp)
/-- The words of 64 bytes. -/
def b2w (x : Nat → Int) (k : Nat) : Int := le4 (x (4 * k)) (x (4 * k + 1)) (x (4 * k + 2)) (x (4 * k + 3))
theorem b2w_step (b o : Nat) (x : Nat → Int) (w : World) (k : Nat) (hk : k < 16) (hx : Rd w b o 64 .u8 x) :
    Calls Tryd.prog 36 #[.slice (some ⟨b, o + (4 * k) * 1, none⟩) (64 - 4 * k) (64 - 4 * k)] w fun e w' => e = .returned (.int .u32 (b2w x k)) ∧ w' = w.drew :=
  le32_any b (o + (4 * k) * 1) _ _ (fun i => x (4 * k + i)) w (by omega) (fun i hi => by have := hx (4 * k + i) (by omega); rw [show o + (4 * k) * 1 + i = o + (4 * k + i) by omega]; exact this)
set_option maxHeartbeats 4000000 in
theorem b2w_any (b o wb wo nb : Nat) (cb : Nat → Value) (tb : TypeId) (x : Nat → Int) (w : World) (hx : Rd w b o 64 .u8 x) (hne : b ≠ wb) (hB : Blk w wb nb cb tb) (ho : wo + 16 ≤ nb) :
    Calls Tryd.prog 28 #[.pointer (some ⟨b, o, none⟩), .pointer (some ⟨wb, wo, none⟩)] w fun e w' => e = .returned (.tuple #[]) ∧ Mod [wb] w w' ∧ Blk w' wb nb (put cb wo 16 (fun k => .int .u32 (b2w x k))) tb := by
  refine calls_of_CW (l := [_, _]) (N := 116) Tryd.func28 rfl rfl rfl ?_
  have hB0 : Blk w wb nb (put cb wo 0 (fun k => .int .u32 (b2w x k))) tb := by rw [put_zero]; exact hB
  have hM0 : Mod [wb] w w := Mod.refl _ _
  refine CW.seq (CW.drawn (fun _ => True) [(0, true), (1, true), (2, true), (3, true), (5, true), (4, false), (6, true), (7, false)] mixed (by kernel_rfl) (by kernel_rfl) ?_)
  refine OW.val trivial rfl rfl rfl (fun _ _ => r_move) ?_
  refine OW.val trivial rfl rfl rfl (fun _ _ => r_move) ?_
  refine OW.val trivial rfl rfl rfl (fun _ _ => r_nil rfl) ?_
  refine OW.val trivial rfl rfl rfl (fun _ _ => r_arr_l rfl rfl arr72 (by decide) (by decide)) ?_
  refine OW.val trivial rfl rfl rfl (fun _ _ => r_nil rfl) ?_
  refine OW.call rfl rfl rfl (e_call en36) ?_
  refine (b2w_step b o x _ 0 (by decide) (hM0.rd hx (by simpa using hne)).drew).mono ?_
  rintro e w' ⟨rfl, rfl⟩
  refine ⟨_, rfl, trivial, ?_⟩
  refine OW.val trivial rfl rfl rfl (fun _ _ => r_index_arr rfl rfl arr57 (by decide) (by decide)) ?_
  refine OW.eff rfl rfl rfl (r_storeB rfl rfl one43 rfl hB0 (by omega)) trivial ?_
  have hB1 := (congrArg (fun c => Blk _ wb nb c tb) (put_snoc cb wo 0 (fun k => .int .u32 (b2w x k)) (.int .u32 (b2w x 0)) rfl)).mp (hB0.drew.drew.set (i := wo + 0) (.int .u32 (b2w x 0)) (by omega))
  have hM1 := ((hM0.trans (Mod.drew [] _) (by simp)).trans (Mod.drew [] _) (by simp)).trans (Mod.set _ wb (wo + 0) (.int .u32 (b2w x 0))) (by simp)
  refine OW.nil (CW.fresh [(0, .pointer (some ⟨b, o, none⟩)), (1, .pointer (some ⟨wb, wo, none⟩))] ⟨rfl, rfl, trivial⟩ (φ := fun w' => Mod [wb] w w' ∧ Blk w' wb nb (put cb wo 1 (fun k => .int .u32 (b2w x k))) tb) ⟨hM1, hB1⟩ ?_)
  clear hM1 hB1
  rintro J w1 ⟨hM1, hB1⟩
  refine CW.seq (CW.drawn (fun _ => True) [(0, true), (1, true), (2, true), (3, true), (5, true), (4, false), (6, true), (7, false)] mixed (by kernel_rfl) (by kernel_rfl) ?_)
  refine OW.val trivial rfl rfl rfl (fun _ _ => r_move) ?_
  refine OW.val trivial rfl rfl rfl (fun _ _ => r_move) ?_
  refine OW.val trivial rfl rfl rfl (fun _ _ => r_nil rfl) ?_
  refine OW.val trivial rfl rfl rfl (fun _ _ => r_arr_l rfl rfl arr72 (by decide) (by decide)) ?_
  refine OW.val trivial rfl rfl rfl (fun _ _ => r_nil rfl) ?_
  refine OW.call rfl rfl rfl (e_call en36) ?_
  refine (b2w_step b o x _ 1 (by decide) (hM1.rd hx (by simpa using hne)).drew).mono ?_
  rintro e w' ⟨rfl, rfl⟩
  refine ⟨_, rfl, trivial, ?_⟩
  refine OW.val trivial rfl rfl rfl (fun _ _ => r_index_arr rfl rfl arr57 (by decide) (by decide)) ?_
  refine OW.eff rfl rfl rfl (r_storeB rfl rfl one43 rfl hB1 (by omega)) trivial ?_
  have hB2 := (congrArg (fun c => Blk _ wb nb c tb) (put_snoc cb wo 1 (fun k => .int .u32 (b2w x k)) (.int .u32 (b2w x 1)) rfl)).mp (hB1.drew.drew.set (i := wo + 1) (.int .u32 (b2w x 1)) (by omega))
  have hM2 := ((hM1.trans (Mod.drew [] _) (by simp)).trans (Mod.drew [] _) (by simp)).trans (Mod.set _ wb (wo + 1) (.int .u32 (b2w x 1))) (by simp)
  refine OW.nil (CW.fresh [(0, .pointer (some ⟨b, o, none⟩)), (1, .pointer (some ⟨wb, wo, none⟩))] ⟨rfl, rfl, trivial⟩ (φ := fun w' => Mod [wb] w w' ∧ Blk w' wb nb (put cb wo 2 (fun k => .int .u32 (b2w x k))) tb) ⟨hM2, hB2⟩ ?_)
  clear hM2 hB2
  rintro J w2 ⟨hM2, hB2⟩
  refine CW.seq (CW.drawn (fun _ => True) [(0, true), (1, true), (2, true), (3, true), (5, true), (4, false), (6, true), (7, false)] mixed (by kernel_rfl) (by kernel_rfl) ?_)
  refine OW.val trivial rfl rfl rfl (fun _ _ => r_move) ?_
  refine OW.val trivial rfl rfl rfl (fun _ _ => r_move) ?_
  refine OW.val trivial rfl rfl rfl (fun _ _ => r_nil rfl) ?_
  refine OW.val trivial rfl rfl rfl (fun _ _ => r_arr_l rfl rfl arr72 (by decide) (by decide)) ?_
  refine OW.val trivial rfl rfl rfl (fun _ _ => r_nil rfl) ?_
  refine OW.call rfl rfl rfl (e_call en36) ?_
  refine (b2w_step b o x _ 2 (by decide) (hM2.rd hx (by simpa using hne)).drew).mono ?_
  rintro e w' ⟨rfl, rfl⟩
  refine ⟨_, rfl, trivial, ?_⟩
  refine OW.val trivial rfl rfl rfl (fun _ _ => r_index_arr rfl rfl arr57 (by decide) (by decide)) ?_
  refine OW.eff rfl rfl rfl (r_storeB rfl rfl one43 rfl hB2 (by omega)) trivial ?_
  have hB3 := (congrArg (fun c => Blk _ wb nb c tb) (put_snoc cb wo 2 (fun k => .int .u32 (b2w x k)) (.int .u32 (b2w x 2)) rfl)).mp (hB2.drew.drew.set (i := wo + 2) (.int .u32 (b2w x 2)) (by omega))
  have hM3 := ((hM2.trans (Mod.drew [] _) (by simp)).trans (Mod.drew [] _) (by simp)).trans (Mod.set _ wb (wo + 2) (.int .u32 (b2w x 2))) (by simp)
  refine OW.nil (CW.fresh [(0, .pointer (some ⟨b, o, none⟩)), (1, .pointer (some ⟨wb, wo, none⟩))] ⟨rfl, rfl, trivial⟩ (φ := fun w' => Mod [wb] w w' ∧ Blk w' wb nb (put cb wo 3 (fun k => .int .u32 (b2w x k))) tb) ⟨hM3, hB3⟩ ?_)
  clear hM3 hB3
  rintro J w3 ⟨hM3, hB3⟩
  refine CW.seq (CW.drawn (fun _ => True) [(0, true), (1, true), (2, true), (3, true), (5, true), (4, false), (6, true), (7, false)] mixed (by kernel_rfl) (by kernel_rfl) ?_)
  refine OW.val trivial rfl rfl rfl (fun _ _ => r_move) ?_
  refine OW.val trivial rfl rfl rfl (fun _ _ => r_move) ?_
  refine OW.val trivial rfl rfl rfl (fun _ _ => r_nil rfl) ?_
  refine OW.val trivial rfl rfl rfl (fun _ _ => r_arr_l rfl rfl arr72 (by decide) (by decide)) ?_
  refine OW.val trivial rfl rfl rfl (fun _ _ => r_nil rfl) ?_
  refine OW.call rfl rfl rfl (e_call en36) ?_
  refine (b2w_step b o x _ 3 (by decide) (hM3.rd hx (by simpa using hne)).drew).mono ?_
  rintro e w' ⟨rfl, rfl⟩
  refine ⟨_, rfl, trivial, ?_⟩
  refine OW.val trivial rfl rfl rfl (fun _ _ => r_index_arr rfl rfl arr57 (by decide) (by decide)) ?_
  refine OW.eff rfl rfl rfl (r_storeB rfl rfl one43 rfl hB3 (by omega)) trivial ?_
  have hB4 := (congrArg (fun c => Blk _ wb nb c tb) (put_snoc cb wo 3 (fun k => .int .u32 (b2w x k)) (.int .u32 (b2w x 3)) rfl)).mp (hB3.drew.drew.set (i := wo + 3) (.int .u32 (b2w x 3)) (by omega))
  have hM4 := ((hM3.trans (Mod.drew [] _) (by simp)).trans (Mod.drew [] _) (by simp)).trans (Mod.set _ wb (wo + 3) (.int .u32 (b2w x 3))) (by simp)
  refine OW.nil (CW.fresh [(0, .pointer (some ⟨b, o, none⟩)), (1, .pointer (some ⟨wb, wo, none⟩))] ⟨rfl, rfl, trivial⟩ (φ := fun w' => Mod [wb] w w' ∧ Blk w' wb nb (put cb wo 4 (fun k => .int .u32 (b2w x k))) tb) ⟨hM4, hB4⟩ ?_)
  clear hM4 hB4
  rintro J w4 ⟨hM4, hB4⟩
  refine CW.seq (CW.drawn (fun _ => True) [(0, true), (1, true), (2, true), (3, true), (5, true), (4, false), (6, true), (7, false)] mixed (by kernel_rfl) (by kernel_rfl) ?_)
  refine OW.val trivial rfl rfl rfl (fun _ _ => r_move) ?_
  refine OW.val trivial rfl rfl rfl (fun _ _ => r_move) ?_
  refine OW.val trivial rfl rfl rfl (fun _ _ => r_nil rfl) ?_
  refine OW.val trivial rfl rfl rfl (fun _ _ => r_arr_l rfl rfl arr72 (by decide) (by decide)) ?_
  refine OW.val trivial rfl rfl rfl (fun _ _ => r_nil rfl) ?_
  refine OW.call rfl rfl rfl (e_call en36) ?_
  refine (b2w_step b o x _ 4 (by decide) (hM4.rd hx (by simpa using hne)).drew).mono ?_
  rintro e w' ⟨rfl, rfl⟩
  refine ⟨_, rfl, trivial, ?_⟩
  refine OW.val trivial rfl rfl rfl (fun _ _ => r_index_arr rfl rfl arr57 (by decide) (by decide)) ?_
  refine OW.eff rfl rfl rfl (r_storeB rfl rfl one43 rfl hB4 (by omega)) trivial ?_
  have hB5 := (congrArg (fun c => Blk _ wb nb c tb) (put_snoc cb wo 4 (fun k => .int .u32 (b2w x k)) (.int .u32 (b2w x 4)) rfl)).mp (hB4.drew.drew.set (i := wo + 4) (.int .u32 (b2w x 4)) (by omega))
  have hM5 := ((hM4.trans (Mod.drew [] _) (by simp)).trans (Mod.drew [] _) (by simp)).trans (Mod.set _ wb (wo + 4) (.int .u32 (b2w x 4))) (by simp)
  refine OW.nil (CW.fresh [(0, .pointer (some ⟨b, o, none⟩)), (1, .pointer (some ⟨wb, wo, none⟩))] ⟨rfl, rfl, trivial⟩ (φ := fun w' => Mod [wb] w w' ∧ Blk w' wb nb (put cb wo 5 (fun k => .int .u32 (b2w x k))) tb) ⟨hM5, hB5⟩ ?_)
  clear hM5 hB5
  rintro J w5 ⟨hM5, hB5⟩
  refine CW.seq (CW.drawn (fun _ => True) [(0, true), (1, true), (2, true), (3, true), (5, true), (4, false), (6, true), (7, false)] mixed (by kernel_rfl) (by kernel_rfl) ?_)
  refine OW.val trivial rfl rfl rfl (fun _ _ => r_move) ?_
  refine OW.val trivial rfl rfl rfl (fun _ _ => r_move) ?_
  refine OW.val trivial rfl rfl rfl (fun _ _ => r_nil rfl) ?_
  refine OW.val trivial rfl rfl rfl (fun _ _ => r_arr_l rfl rfl arr72 (by decide) (by decide)) ?_
  refine OW.val trivial rfl rfl rfl (fun _ _ => r_nil rfl) ?_
  refine OW.call rfl rfl rfl (e_call en36) ?_
  refine (b2w_step b o x _ 5 (by decide) (hM5.rd hx (by simpa using hne)).drew).mono ?_
  rintro e w' ⟨rfl, rfl⟩
  refine ⟨_, rfl, trivial, ?_⟩
  refine OW.val trivial rfl rfl rfl (fun _ _ => r_index_arr rfl rfl arr57 (by decide) (by decide)) ?_
  refine OW.eff rfl rfl rfl (r_storeB rfl rfl one43 rfl hB5 (by omega)) trivial ?_
  have hB6 := (congrArg (fun c => Blk _ wb nb c tb) (put_snoc cb wo 5 (fun k => .int .u32 (b2w x k)) (.int .u32 (b2w x 5)) rfl)).mp (hB5.drew.drew.set (i := wo + 5) (.int .u32 (b2w x 5)) (by omega))
  have hM6 := ((hM5.trans (Mod.drew [] _) (by simp)).trans (Mod.drew [] _) (by simp)).trans (Mod.set _ wb (wo + 5) (.int .u32 (b2w x 5))) (by simp)
  refine OW.nil (CW.fresh [(0, .pointer (some ⟨b, o, none⟩)), (1, .pointer (some ⟨wb, wo, none⟩))] ⟨rfl, rfl, trivial⟩ (φ := fun w' => Mod [wb] w w' ∧ Blk w' wb nb (put cb wo 6 (fun k => .int .u32 (b2w x k))) tb) ⟨hM6, hB6⟩ ?_)
  clear hM6 hB6
  rintro J w6 ⟨hM6, hB6⟩
  refine CW.seq (CW.drawn (fun _ => True) [(0, true), (1, true), (2, true), (3, true), (5, true), (4, false), (6, true), (7, false)] mixed (by kernel_rfl) (by kernel_rfl) ?_)
  refine OW.val trivial rfl rfl rfl (fun _ _ => r_move) ?_
  refine OW.val trivial rfl rfl rfl (fun _ _ => r_move) ?_
  refine OW.val trivial rfl rfl rfl (fun _ _ => r_nil rfl) ?_
  refine OW.val trivial rfl rfl rfl (fun _ _ => r_arr_l rfl rfl arr72 (by decide) (by decide)) ?_
  refine OW.val trivial rfl rfl rfl (fun _ _ => r_nil rfl) ?_
  refine OW.call rfl rfl rfl (e_call en36) ?_
  refine (b2w_step b o x _ 6 (by decide) (hM6.rd hx (by simpa using hne)).drew).mono ?_
  rintro e w' ⟨rfl, rfl⟩
  refine ⟨_, rfl, trivial, ?_⟩
  refine OW.val trivial rfl rfl rfl (fun _ _ => r_index_arr rfl rfl arr57 (by decide) (by decide)) ?_
  refine OW.eff rfl rfl rfl (r_storeB rfl rfl one43 rfl hB6 (by omega)) trivial ?_
  have hB7 := (congrArg (fun c => Blk _ wb nb c tb) (put_snoc cb wo 6 (fun k => .int .u32 (b2w x k)) (.int .u32 (b2w x 6)) rfl)).mp (hB6.drew.drew.set (i := wo + 6) (.int .u32 (b2w x 6)) (by omega))
  have hM7 := ((hM6.trans (Mod.drew [] _) (by simp)).trans (Mod.drew [] _) (by simp)).trans (Mod.set _ wb (wo + 6) (.int .u32 (b2w x 6))) (by simp)
  refine OW.nil (CW.fresh [(0, .pointer (some ⟨b, o, none⟩)), (1, .pointer (some ⟨wb, wo, none⟩))] ⟨rfl, rfl, trivial⟩ (φ := fun w' => Mod [wb] w w' ∧ Blk w' wb nb (put cb wo 7 (fun k => .int .u32 (b2w x k))) tb) ⟨hM7, hB7⟩ ?_)
  clear hM7 hB7
  rintro J w7 ⟨hM7, hB7⟩
  refine CW.seq (CW.drawn (fun _ => True) [(0, true), (1, true), (2, true), (3, true), (5, true), (4, false), (6, true), (7, false)] mixed (by kernel_rfl) (by kernel_rfl) ?_)
  refine OW.val trivial rfl rfl rfl (fun _ _ => r_move) ?_
  refine OW.val trivial rfl rfl rfl (fun _ _ => r_move) ?_
  refine OW.val trivial rfl rfl rfl (fun _ _ => r_nil rfl) ?_
  refine OW.val trivial rfl rfl rfl (fun _ _ => r_arr_l rfl rfl arr72 (by decide) (by decide)) ?_
  refine OW.val trivial rfl rfl rfl (fun _ _ => r_nil rfl) ?_
  refine OW.call rfl rfl rfl (e_call en36) ?_
  refine (b2w_step b o x _ 7 (by decide) (hM7.rd hx (by simpa using hne)).drew).mono ?_
  rintro e w' ⟨rfl, rfl⟩
  refine ⟨_, rfl, trivial, ?_⟩
  refine OW.val trivial rfl rfl rfl (fun _ _ => r_index_arr rfl rfl arr57 (by decide) (by decide)) ?_
  refine OW.eff rfl rfl rfl (r_storeB rfl rfl one43 rfl hB7 (by omega)) trivial ?_
  have hB8 := (congrArg (fun c => Blk _ wb nb c tb) (put_snoc cb wo 7 (fun k => .int .u32 (b2w x k)) (.int .u32 (b2w x 7)) rfl)).mp (hB7.drew.drew.set (i := wo + 7) (.int .u32 (b2w x 7)) (by omega))
  have hM8 := ((hM7.trans (Mod.drew [] _) (by simp)).trans (Mod.drew [] _) (by simp)).trans (Mod.set _ wb (wo + 7) (.int .u32 (b2w x 7))) (by simp)
  refine OW.nil (CW.fresh [(0, .pointer (some ⟨b, o, none⟩)), (1, .pointer (some ⟨wb, wo, none⟩))] ⟨rfl, rfl, trivial⟩ (φ := fun w' => Mod [wb] w w' ∧ Blk w' wb nb (put cb wo 8 (fun k => .int .u32 (b2w x k))) tb) ⟨hM8, hB8⟩ ?_)
  clear hM8 hB8
  rintro J w8 ⟨hM8, hB8⟩
  refine CW.seq (CW.drawn (fun _ => True) [(0, true), (1, true), (2, true), (3, true), (5, true), (4, false), (6, true), (7, false)] mixed (by kernel_rfl) (by kernel_rfl) ?_)
  refine OW.val trivial rfl rfl rfl (fun _ _ => r_move) ?_
  refine OW.val trivial rfl rfl rfl (fun _ _ => r_move) ?_
  refine OW.val trivial rfl rfl rfl (fun _ _ => r_nil rfl) ?_
  refine OW.val trivial rfl rfl rfl (fun _ _ => r_arr_l rfl rfl arr72 (by decide) (by decide)) ?_
  refine OW.val trivial rfl rfl rfl (fun _ _ => r_nil rfl) ?_
  refine OW.call rfl rfl rfl (e_call en36) ?_
  refine (b2w_step b o x _ 8 (by decide) (hM8.rd hx (by simpa using hne)).drew).mono ?_
  rintro e w' ⟨rfl, rfl⟩
  refine ⟨_, rfl, trivial, ?_⟩
  refine OW.val trivial rfl rfl rfl (fun _ _ => r_index_arr rfl rfl arr57 (by decide) (by decide)) ?_
  refine OW.eff rfl rfl rfl (r_storeB rfl rfl one43 rfl hB8 (by omega)) trivial ?_
  have hB9 := (congrArg (fun c => Blk _ wb nb c tb) (put_snoc cb wo 8 (fun k => .int .u32 (b2w x k)) (.int .u32 (b2w x 8)) rfl)).mp (hB8.drew.drew.set (i := wo + 8) (.int .u32 (b2w x 8)) (by omega))
  have hM9 := ((hM8.trans (Mod.drew [] _) (by simp)).trans (Mod.drew [] _) (by simp)).trans (Mod.set _ wb (wo + 8) (.int .u32 (b2w x 8))) (by simp)
  refine OW.nil (CW.fresh [(0, .pointer (some ⟨b, o, none⟩)), (1, .pointer (some ⟨wb, wo, none⟩))] ⟨rfl, rfl, trivial⟩ (φ := fun w' => Mod [wb] w w' ∧ Blk w' wb nb (put cb wo 9 (fun k => .int .u32 (b2w x k))) tb) ⟨hM9, hB9⟩ ?_)
  clear hM9 hB9
  rintro J w9 ⟨hM9, hB9⟩
  refine CW.seq (CW.drawn (fun _ => True) [(0, true), (1, true), (2, true), (3, true), (5, true), (4, false), (6, true), (7, false)] mixed (by kernel_rfl) (by kernel_rfl) ?_)
  refine OW.val trivial rfl rfl rfl (fun _ _ => r_move) ?_
  refine OW.val trivial rfl rfl rfl (fun _ _ => r_move) ?_
  refine OW.val trivial rfl rfl rfl (fun _ _ => r_nil rfl) ?_
  refine OW.val trivial rfl rfl rfl (fun _ _ => r_arr_l rfl rfl arr72 (by decide) (by decide)) ?_
  refine OW.val trivial rfl rfl rfl (fun _ _ => r_nil rfl) ?_
  refine OW.call rfl rfl rfl (e_call en36) ?_
  refine (b2w_step b o x _ 9 (by decide) (hM9.rd hx (by simpa using hne)).drew).mono ?_
  rintro e w' ⟨rfl, rfl⟩
  refine ⟨_, rfl, trivial, ?_⟩
  refine OW.val trivial rfl rfl rfl (fun _ _ => r_index_arr rfl rfl arr57 (by decide) (by decide)) ?_
  refine OW.eff rfl rfl rfl (r_storeB rfl rfl one43 rfl hB9 (by omega)) trivial ?_
  have hB10 := (congrArg (fun c => Blk _ wb nb c tb) (put_snoc cb wo 9 (fun k => .int .u32 (b2w x k)) (.int .u32 (b2w x 9)) rfl)).mp (hB9.drew.drew.set (i := wo + 9) (.int .u32 (b2w x 9)) (by omega))
  have hM10 := ((hM9.trans (Mod.drew [] _) (by simp)).trans (Mod.drew [] _) (by simp)).trans (Mod.set _ wb (wo + 9) (.int .u32 (b2w x 9))) (by simp)
  refine OW.nil (CW.fresh [(0, .pointer (some ⟨b, o, none⟩)), (1, .pointer (some ⟨wb, wo, none⟩))] ⟨rfl, rfl, trivial⟩ (φ := fun w' => Mod [wb] w w' ∧ Blk w' wb nb (put cb wo 10 (fun k => .int .u32 (b2w x k))) tb) ⟨hM10, hB10⟩ ?_)
  clear hM10 hB10
  rintro J w10 ⟨hM10, hB10⟩
  refine CW.seq (CW.drawn (fun _ => True) [(0, true), (1, true), (2, true), (3, true), (5, true), (4, false), (6, true), (7, false)] mixed (by kernel_rfl) (by kernel_rfl) ?_)
  refine OW.val trivial rfl rfl rfl (fun _ _ => r_move) ?_
  refine OW.val trivial rfl rfl rfl (fun _ _ => r_move) ?_
  refine OW.val trivial rfl rfl rfl (fun _ _ => r_nil rfl) ?_
  refine OW.val trivial rfl rfl rfl (fun _ _ => r_arr_l rfl rfl arr72 (by decide) (by decide)) ?_
  refine OW.val trivial rfl rfl rfl (fun _ _ => r_nil rfl) ?_
  refine OW.call rfl rfl rfl (e_call en36) ?_
  refine (b2w_step b o x _ 10 (by decide) (hM10.rd hx (by simpa using hne)).drew).mono ?_
  rintro e w' ⟨rfl, rfl⟩
  refine ⟨_, rfl, trivial, ?_⟩
  refine OW.val trivial rfl rfl rfl (fun _ _ => r_index_arr rfl rfl arr57 (by decide) (by decide)) ?_
  refine OW.eff rfl rfl rfl (r_storeB rfl rfl one43 rfl hB10 (by omega)) trivial ?_
  have hB11 := (congrArg (fun c => Blk _ wb nb c tb) (put_snoc cb wo 10 (fun k => .int .u32 (b2w x k)) (.int .u32 (b2w x 10)) rfl)).mp (hB10.drew.drew.set (i := wo + 10) (.int .u32 (b2w x 10)) (by omega))
  have hM11 := ((hM10.trans (Mod.drew [] _) (by simp)).trans (Mod.drew [] _) (by simp)).trans (Mod.set _ wb (wo + 10) (.int .u32 (b2w x 10))) (by simp)
  refine OW.nil (CW.fresh [(0, .pointer (some ⟨b, o, none⟩)), (1, .pointer (some ⟨wb, wo, none⟩))] ⟨rfl, rfl, trivial⟩ (φ := fun w' => Mod [wb] w w' ∧ Blk w' wb nb (put cb wo 11 (fun k => .int .u32 (b2w x k))) tb) ⟨hM11, hB11⟩ ?_)
  clear hM11 hB11
  rintro J w11 ⟨hM11, hB11⟩
  refine CW.seq (CW.drawn (fun _ => True) [(0, true), (1, true), (2, true), (3, true), (5, true), (4, false), (6, true), (7, false)] mixed (by kernel_rfl) (by kernel_rfl) ?_)
  refine OW.val trivial rfl rfl rfl (fun _ _ => r_move) ?_
  refine OW.val trivial rfl rfl rfl (fun _ _ => r_move) ?_
  refine OW.val trivial rfl rfl rfl (fun _ _ => r_nil rfl) ?_
  refine OW.val trivial rfl rfl rfl (fun _ _ => r_arr_l rfl rfl arr72 (by decide) (by decide)) ?_
  refine OW.val trivial rfl rfl rfl (fun _ _ => r_nil rfl) ?_
  refine OW.call rfl rfl rfl (e_call en36) ?_
  refine (b2w_step b o x _ 11 (by decide) (hM11.rd hx (by simpa using hne)).drew).mono ?_
  rintro e w' ⟨rfl, rfl⟩
  refine ⟨_, rfl, trivial, ?_⟩
  refine OW.val trivial rfl rfl rfl (fun _ _ => r_index_arr rfl rfl arr57 (by decide) (by decide)) ?_
  refine OW.eff rfl rfl rfl (r_storeB rfl rfl one43 rfl hB11 (by omega)) trivial ?_
  have hB12 := (congrArg (fun c => Blk _ wb nb c tb) (put_snoc cb wo 11 (fun k => .int .u32 (b2w x k)) (.int .u32 (b2w x 11)) rfl)).mp (hB11.drew.drew.set (i := wo + 11) (.int .u32 (b2w x 11)) (by omega))
  have hM12 := ((hM11.trans (Mod.drew [] _) (by simp)).trans (Mod.drew [] _) (by simp)).trans (Mod.set _ wb (wo + 11) (.int .u32 (b2w x 11))) (by simp)
  refine OW.nil (CW.fresh [(0, .pointer (some ⟨b, o, none⟩)), (1, .pointer (some ⟨wb, wo, none⟩))] ⟨rfl, rfl, trivial⟩ (φ := fun w' => Mod [wb] w w' ∧ Blk w' wb nb (put cb wo 12 (fun k => .int .u32 (b2w x k))) tb) ⟨hM12, hB12⟩ ?_)
  clear hM12 hB12
  rintro J w12 ⟨hM12, hB12⟩
  refine CW.seq (CW.drawn (fun _ => True) [(0, true), (1, true), (2, true), (3, true), (5, true), (4, false), (6, true), (7, false)] mixed (by kernel_rfl) (by kernel_rfl) ?_)
  refine OW.val trivial rfl rfl rfl (fun _ _ => r_move) ?_
  refine OW.val trivial rfl rfl rfl (fun _ _ => r_move) ?_
  refine OW.val trivial rfl rfl rfl (fun _ _ => r_nil rfl) ?_
  refine OW.val trivial rfl rfl rfl (fun _ _ => r_arr_l rfl rfl arr72 (by decide) (by decide)) ?_
  refine OW.val trivial rfl rfl rfl (fun _ _ => r_nil rfl) ?_
  refine OW.call rfl rfl rfl (e_call en36) ?_
  refine (b2w_step b o x _ 12 (by decide) (hM12.rd hx (by simpa using hne)).drew).mono ?_
  rintro e w' ⟨rfl, rfl⟩
  refine ⟨_, rfl, trivial, ?_⟩
  refine OW.val trivial rfl rfl rfl (fun _ _ => r_index_arr rfl rfl arr57 (by decide) (by decide)) ?_
  refine OW.eff rfl rfl rfl (r_storeB rfl rfl one43 rfl hB12 (by omega)) trivial ?_
  have hB13 := (congrArg (fun c => Blk _ wb nb c tb) (put_snoc cb wo 12 (fun k => .int .u32 (b2w x k)) (.int .u32 (b2w x 12)) rfl)).mp (hB12.drew.drew.set (i := wo + 12) (.int .u32 (b2w x 12)) (by omega))
  have hM13 := ((hM12.trans (Mod.drew [] _) (by simp)).trans (Mod.drew [] _) (by simp)).trans (Mod.set _ wb (wo + 12) (.int .u32 (b2w x 12))) (by simp)
  refine OW.nil (CW.fresh [(0, .pointer (some ⟨b, o, none⟩)), (1, .pointer (some ⟨wb, wo, none⟩))] ⟨rfl, rfl, trivial⟩ (φ := fun w' => Mod [wb] w w' ∧ Blk w' wb nb (put cb wo 13 (fun k => .int .u32 (b2w x k))) tb) ⟨hM13, hB13⟩ ?_)
  clear hM13 hB13
  rintro J w13 ⟨hM13, hB13⟩
  refine CW.seq (CW.drawn (fun _ => True) [(0, true), (1, true), (2, true), (3, true), (5, true), (4, false), (6, true), (7, false)] mixed (by kernel_rfl) (by kernel_rfl) ?_)
  refine OW.val trivial rfl rfl rfl (fun _ _ => r_move) ?_
  refine OW.val trivial rfl rfl rfl (fun _ _ => r_move) ?_
  refine OW.val trivial rfl rfl rfl (fun _ _ => r_nil rfl) ?_
  refine OW.val trivial rfl rfl rfl (fun _ _ => r_arr_l rfl rfl arr72 (by decide) (by decide)) ?_
  refine OW.val trivial rfl rfl rfl (fun _ _ => r_nil rfl) ?_
  refine OW.call rfl rfl rfl (e_call en36) ?_
  refine (b2w_step b o x _ 13 (by decide) (hM13.rd hx (by simpa using hne)).drew).mono ?_
  rintro e w' ⟨rfl, rfl⟩
  refine ⟨_, rfl, trivial, ?_⟩
  refine OW.val trivial rfl rfl rfl (fun _ _ => r_index_arr rfl rfl arr57 (by decide) (by decide)) ?_
  refine OW.eff rfl rfl rfl (r_storeB rfl rfl one43 rfl hB13 (by omega)) trivial ?_
  have hB14 := (congrArg (fun c => Blk _ wb nb c tb) (put_snoc cb wo 13 (fun k => .int .u32 (b2w x k)) (.int .u32 (b2w x 13)) rfl)).mp (hB13.drew.drew.set (i := wo + 13) (.int .u32 (b2w x 13)) (by omega))
  have hM14 := ((hM13.trans (Mod.drew [] _) (by simp)).trans (Mod.drew [] _) (by simp)).trans (Mod.set _ wb (wo + 13) (.int .u32 (b2w x 13))) (by simp)
  refine OW.nil (CW.fresh [(0, .pointer (some ⟨b, o, none⟩)), (1, .pointer (some ⟨wb, wo, none⟩))] ⟨rfl, rfl, trivial⟩ (φ := fun w' => Mod [wb] w w' ∧ Blk w' wb nb (put cb wo 14 (fun k => .int .u32 (b2w x k))) tb) ⟨hM14, hB14⟩ ?_)
  clear hM14 hB14
  rintro J w14 ⟨hM14, hB14⟩
  refine CW.seq (CW.drawn (fun _ => True) [(0, true), (1, true), (2, true), (3, true), (5, true), (4, false), (6, true), (7, false)] mixed (by kernel_rfl) (by kernel_rfl) ?_)
  refine OW.val trivial rfl rfl rfl (fun _ _ => r_move) ?_
  refine OW.val trivial rfl rfl rfl (fun _ _ => r_move) ?_
  refine OW.val trivial rfl rfl rfl (fun _ _ => r_nil rfl) ?_
  refine OW.val trivial rfl rfl rfl (fun _ _ => r_arr_l rfl rfl arr72 (by decide) (by decide)) ?_
  refine OW.val trivial rfl rfl rfl (fun _ _ => r_nil rfl) ?_
  refine OW.call rfl rfl rfl (e_call en36) ?_
  refine (b2w_step b o x _ 14 (by decide) (hM14.rd hx (by simpa using hne)).drew).mono ?_
  rintro e w' ⟨rfl, rfl⟩
  refine ⟨_, rfl, trivial, ?_⟩
  refine OW.val trivial rfl rfl rfl (fun _ _ => r_index_arr rfl rfl arr57 (by decide) (by decide)) ?_
  refine OW.eff rfl rfl rfl (r_storeB rfl rfl one43 rfl hB14 (by omega)) trivial ?_
  have hB15 := (congrArg (fun c => Blk _ wb nb c tb) (put_snoc cb wo 14 (fun k => .int .u32 (b2w x k)) (.int .u32 (b2w x 14)) rfl)).mp (hB14.drew.drew.set (i := wo + 14) (.int .u32 (b2w x 14)) (by omega))
  have hM15 := ((hM14.trans (Mod.drew [] _) (by simp)).trans (Mod.drew [] _) (by simp)).trans (Mod.set _ wb (wo + 14) (.int .u32 (b2w x 14))) (by simp)
  refine OW.nil (CW.fresh [(0, .pointer (some ⟨b, o, none⟩)), (1, .pointer (some ⟨wb, wo, none⟩))] ⟨rfl, rfl, trivial⟩ (φ := fun w' => Mod [wb] w w' ∧ Blk w' wb nb (put cb wo 15 (fun k => .int .u32 (b2w x k))) tb) ⟨hM15, hB15⟩ ?_)
  clear hM15 hB15
  rintro J w15 ⟨hM15, hB15⟩
  refine CW.drawn (fun _ => True) [(0, true), (1, true), (2, true), (3, true), (5, true), (4, false), (6, true), (7, false)] mixed (by kernel_rfl) (by kernel_rfl) ?_
  refine OW.val trivial rfl rfl rfl (fun _ _ => r_move) ?_
  refine OW.val trivial rfl rfl rfl (fun _ _ => r_move) ?_
  refine OW.val trivial rfl rfl rfl (fun _ _ => r_nil rfl) ?_
  refine OW.val trivial rfl rfl rfl (fun _ _ => r_arr_l rfl rfl arr72 (by decide) (by decide)) ?_
  refine OW.val trivial rfl rfl rfl (fun _ _ => r_nil rfl) ?_
  refine OW.call rfl rfl rfl (e_call en36) ?_
  refine (b2w_step b o x _ 15 (by decide) (hM15.rd hx (by simpa using hne)).drew).mono ?_
  rintro e w' ⟨rfl, rfl⟩
  refine ⟨_, rfl, trivial, ?_⟩
  refine OW.val trivial rfl rfl rfl (fun _ _ => r_index_arr rfl rfl arr57 (by decide) (by decide)) ?_
  refine OW.eff rfl rfl rfl (r_storeB rfl rfl one43 rfl hB15 (by omega)) trivial ?_
  have hB16 := (congrArg (fun c => Blk _ wb nb c tb) (put_snoc cb wo 15 (fun k => .int .u32 (b2w x k)) (.int .u32 (b2w x 15)) rfl)).mp (hB15.drew.drew.set (i := wo + 15) (.int .u32 (b2w x 15)) (by omega))
  have hM16 := ((hM15.trans (Mod.drew [] _) (by simp)).trans (Mod.drew [] _) (by simp)).trans (Mod.set _ wb (wo + 15) (.int .u32 (b2w x 15))) (by simp)
  exact OW.nil ⟨_, RetV.none rfl, rfl, hM16, hB16⟩
/-- The bytes of words. -/
def w2b (m : Nat → Int) (j : Nat) : Value := byteW (m (j / 4)) (j % 4)
set_option maxHeartbeats 4000000 in
theorem w2b_any (wb wo b o n cp nb : Nat) (cb : Nat → Value) (tb : TypeId) (m : Nat → Int) (w : World) (hm : Rd w wb wo 16 .u32 m) (hne : wb ≠ b) (hn : 64 ≤ cp) (hB : Blk w b nb cb tb) (ho : o + 64 ≤ nb) :
    Calls Tryd.prog 23 #[.pointer (some ⟨wb, wo, none⟩), .slice (some ⟨b, o, none⟩) n cp] w fun e w' => e = .returned (.tuple #[]) ∧ Mod [b] w w' ∧ Blk w' b nb (put cb o 64 (w2b m)) tb := by
  refine calls_of_CW (l := [_, _]) (N := 118) Tryd.func23 rfl rfl rfl ?_
  have hB0 : Blk w b nb (put cb o 0 (w2b m)) tb := by rw [put_zero]; exact hB
  have hM0 : Mod [b] w w := Mod.refl _ _
  have hv : ∀ q, ∀ i, i < 4 → byteW (m q) i = w2b m (4 * q + i) := fun q i hi => by
    unfold w2b
    rw [show (4 * q + i) / 4 = q by omega, show (4 * q + i) % 4 = i by omega]
  refine CW.seq (CW.region ?_)
  refine LW.val rfl rfl (r_move) ?_
  refine LW.val rfl rfl (r_slc_h rfl rfl slc22 (by decide) (by omega)) ?_
  refine LW.val rfl rfl (r_assign) ?_
  refine LW.nil (CW.base [(0, .pointer (some ⟨wb, wo, none⟩)), (1, .slice (some ⟨b, o, none⟩) 64 cp)] ⟨rfl, rfl, trivial⟩ fun J => ?_)
  refine CW.seq (CW.drawn (fun w => Rd w wb wo 16 .u32 m) [(0, true), (1, true), (2, true), (3, true), (4, true), (5, true), (6, false)] mixed (by kernel_rfl) (by kernel_rfl) ?_)
  have hS := (hM0.rd hm (by simpa using hne)).drew
  refine OW.val hS rfl rfl rfl (fun _ _ => r_move) ?_
  refine OW.val hS rfl rfl rfl (fun _ _ => r_slc_lh rfl rfl rfl slc22 (by decide) (by decide) (by omega) (by omega)) ?_
  refine OW.val hS rfl rfl rfl (fun _ _ => r_move) ?_
  refine OW.val hS rfl rfl rfl (fun _ _ => r_nil rfl) ?_
  refine OW.val hS rfl rfl rfl (fun _ _ => r_index_arr rfl rfl arr57 (by decide) (by decide)) ?_
  refine OW.val hS rfl rfl rfl (fun _ hS => r_load rfl one43 (hS 0 (by decide))) ?_
  refine OW.call rfl rfl rfl (e_call en32) ?_
  refine (put32_any b (o + 0) _ _ nb _ tb (m 0) _ (by decide) hB0.drew (by omega)).mono ?_
  rintro e w1 ⟨rfl, hM', hB'⟩
  have hM1 := (hM0.trans (Mod.drew [] _) (by simp)).trans hM' (by simp)
  have hB1 := (congrArg (fun c => Blk w1 b nb c tb) (put_app cb o 0 4 (w2b m) (byteW (m 0)) (hv 0))).mp hB'
  refine ⟨_, rfl, hM1.rd hm (by simpa using hne), ?_⟩
  clear hS
  refine OW.nil (CW.base [(0, .pointer (some ⟨wb, wo, none⟩)), (1, .slice (some ⟨b, o, none⟩) 64 cp)] ⟨rfl, rfl, trivial⟩ fun J => ?_)
  refine CW.seq (CW.drawn (fun w => Rd w wb wo 16 .u32 m) [(0, true), (1, true), (2, true), (3, true), (4, true), (5, true), (6, false)] mixed (by kernel_rfl) (by kernel_rfl) ?_)
  have hS := (hM1.rd hm (by simpa using hne)).drew
  refine OW.val hS rfl rfl rfl (fun _ _ => r_move) ?_
  refine OW.val hS rfl rfl rfl (fun _ _ => r_slc_lh rfl rfl rfl slc22 (by decide) (by decide) (by omega) (by omega)) ?_
  refine OW.val hS rfl rfl rfl (fun _ _ => r_move) ?_
  refine OW.val hS rfl rfl rfl (fun _ _ => r_nil rfl) ?_
  refine OW.val hS rfl rfl rfl (fun _ _ => r_index_arr rfl rfl arr57 (by decide) (by decide)) ?_
  refine OW.val hS rfl rfl rfl (fun _ hS => r_load rfl one43 (hS 1 (by decide))) ?_
  refine OW.call rfl rfl rfl (e_call en32) ?_
  refine (put32_any b (o + 4) _ _ nb _ tb (m 1) _ (by decide) hB1.drew (by omega)).mono ?_
  rintro e w2 ⟨rfl, hM', hB'⟩
  have hM2 := (hM1.trans (Mod.drew [] _) (by simp)).trans hM' (by simp)
  have hB2 := (congrArg (fun c => Blk w2 b nb c tb) (put_app cb o 4 4 (w2b m) (byteW (m 1)) (hv 1))).mp hB'
  refine ⟨_, rfl, hM2.rd hm (by simpa using hne), ?_⟩
  clear hS
  refine OW.nil (CW.base [(0, .pointer (some ⟨wb, wo, none⟩)), (1, .slice (some ⟨b, o, none⟩) 64 cp)] ⟨rfl, rfl, trivial⟩ fun J => ?_)
  refine CW.seq (CW.drawn (fun w => Rd w wb wo 16 .u32 m) [(0, true), (1, true), (2, true), (3, true), (4, true), (5, true), (6, false)] mixed (by kernel_rfl) (by kernel_rfl) ?_)
  have hS := (hM2.rd hm (by simpa using hne)).drew
  refine OW.val hS rfl rfl rfl (fun _ _ => r_move) ?_
  refine OW.val hS rfl rfl rfl (fun _ _ => r_slc_lh rfl rfl rfl slc22 (by decide) (by decide) (by omega) (by omega)) ?_
  refine OW.val hS rfl rfl rfl (fun _ _ => r_move) ?_
  refine OW.val hS rfl rfl rfl (fun _ _ => r_nil rfl) ?_
  refine OW.val hS rfl rfl rfl (fun _ _ => r_index_arr rfl rfl arr57 (by decide) (by decide)) ?_
  refine OW.val hS rfl rfl rfl (fun _ hS => r_load rfl one43 (hS 2 (by decide))) ?_
  refine OW.call rfl rfl rfl (e_call en32) ?_
  refine (put32_any b (o + 8) _ _ nb _ tb (m 2) _ (by decide) hB2.drew (by omega)).mono ?_
  rintro e w3 ⟨rfl, hM', hB'⟩
  have hM3 := (hM2.trans (Mod.drew [] _) (by simp)).trans hM' (by simp)
  have hB3 := (congrArg (fun c => Blk w3 b nb c tb) (put_app cb o 8 4 (w2b m) (byteW (m 2)) (hv 2))).mp hB'
  refine ⟨_, rfl, hM3.rd hm (by simpa using hne), ?_⟩
  clear hS
  refine OW.nil (CW.base [(0, .pointer (some ⟨wb, wo, none⟩)), (1, .slice (some ⟨b, o, none⟩) 64 cp)] ⟨rfl, rfl, trivial⟩ fun J => ?_)
  refine CW.seq (CW.drawn (fun w => Rd w wb wo 16 .u32 m) [(0, true), (1, true), (2, true), (3, true), (4, true), (5, true), (6, false)] mixed (by kernel_rfl) (by kernel_rfl) ?_)
  have hS := (hM3.rd hm (by simpa using hne)).drew
  refine OW.val hS rfl rfl rfl (fun _ _ => r_move) ?_
  refine OW.val hS rfl rfl rfl (fun _ _ => r_slc_lh rfl rfl rfl slc22 (by decide) (by decide) (by omega) (by omega)) ?_
  refine OW.val hS rfl rfl rfl (fun _ _ => r_move) ?_
  refine OW.val hS rfl rfl rfl (fun _ _ => r_nil rfl) ?_
  refine OW.val hS rfl rfl rfl (fun _ _ => r_index_arr rfl rfl arr57 (by decide) (by decide)) ?_
  refine OW.val hS rfl rfl rfl (fun _ hS => r_load rfl one43 (hS 3 (by decide))) ?_
  refine OW.call rfl rfl rfl (e_call en32) ?_
  refine (put32_any b (o + 12) _ _ nb _ tb (m 3) _ (by decide) hB3.drew (by omega)).mono ?_
  rintro e w4 ⟨rfl, hM', hB'⟩
  have hM4 := (hM3.trans (Mod.drew [] _) (by simp)).trans hM' (by simp)
  have hB4 := (congrArg (fun c => Blk w4 b nb c tb) (put_app cb o 12 4 (w2b m) (byteW (m 3)) (hv 3))).mp hB'
  refine ⟨_, rfl, hM4.rd hm (by simpa using hne), ?_⟩
  clear hS
  refine OW.nil (CW.base [(0, .pointer (some ⟨wb, wo, none⟩)), (1, .slice (some ⟨b, o, none⟩) 64 cp)] ⟨rfl, rfl, trivial⟩ fun J => ?_)
  refine CW.seq (CW.drawn (fun w => Rd w wb wo 16 .u32 m) [(0, true), (1, true), (2, true), (3, true), (4, true), (5, true), (6, false)] mixed (by kernel_rfl) (by kernel_rfl) ?_)
  have hS := (hM4.rd hm (by simpa using hne)).drew
  refine OW.val hS rfl rfl rfl (fun _ _ => r_move) ?_
  refine OW.val hS rfl rfl rfl (fun _ _ => r_slc_lh rfl rfl rfl slc22 (by decide) (by decide) (by omega) (by omega)) ?_
  refine OW.val hS rfl rfl rfl (fun _ _ => r_move) ?_
  refine OW.val hS rfl rfl rfl (fun _ _ => r_nil rfl) ?_
  refine OW.val hS rfl rfl rfl (fun _ _ => r_index_arr rfl rfl arr57 (by decide) (by decide)) ?_
  refine OW.val hS rfl rfl rfl (fun _ hS => r_load rfl one43 (hS 4 (by decide))) ?_
  refine OW.call rfl rfl rfl (e_call en32) ?_
  refine (put32_any b (o + 16) _ _ nb _ tb (m 4) _ (by decide) hB4.drew (by omega)).mono ?_
  rintro e w5 ⟨rfl, hM', hB'⟩
  have hM5 := (hM4.trans (Mod.drew [] _) (by simp)).trans hM' (by simp)
  have hB5 := (congrArg (fun c => Blk w5 b nb c tb) (put_app cb o 16 4 (w2b m) (byteW (m 4)) (hv 4))).mp hB'
  refine ⟨_, rfl, hM5.rd hm (by simpa using hne), ?_⟩
  clear hS
  refine OW.nil (CW.base [(0, .pointer (some ⟨wb, wo, none⟩)), (1, .slice (some ⟨b, o, none⟩) 64 cp)] ⟨rfl, rfl, trivial⟩ fun J => ?_)
  refine CW.seq (CW.drawn (fun w => Rd w wb wo 16 .u32 m) [(0, true), (1, true), (2, true), (3, true), (4, true), (5, true), (6, false)] mixed (by kernel_rfl) (by kernel_rfl) ?_)
  have hS := (hM5.rd hm (by simpa using hne)).drew
  refine OW.val hS rfl rfl rfl (fun _ _ => r_move) ?_
  refine OW.val hS rfl rfl rfl (fun _ _ => r_slc_lh rfl rfl rfl slc22 (by decide) (by decide) (by omega) (by omega)) ?_
  refine OW.val hS rfl rfl rfl (fun _ _ => r_move) ?_
  refine OW.val hS rfl rfl rfl (fun _ _ => r_nil rfl) ?_
  refine OW.val hS rfl rfl rfl (fun _ _ => r_index_arr rfl rfl arr57 (by decide) (by decide)) ?_
  refine OW.val hS rfl rfl rfl (fun _ hS => r_load rfl one43 (hS 5 (by decide))) ?_
  refine OW.call rfl rfl rfl (e_call en32) ?_
  refine (put32_any b (o + 20) _ _ nb _ tb (m 5) _ (by decide) hB5.drew (by omega)).mono ?_
  rintro e w6 ⟨rfl, hM', hB'⟩
  have hM6 := (hM5.trans (Mod.drew [] _) (by simp)).trans hM' (by simp)
  have hB6 := (congrArg (fun c => Blk w6 b nb c tb) (put_app cb o 20 4 (w2b m) (byteW (m 5)) (hv 5))).mp hB'
  refine ⟨_, rfl, hM6.rd hm (by simpa using hne), ?_⟩
  clear hS
  refine OW.nil (CW.base [(0, .pointer (some ⟨wb, wo, none⟩)), (1, .slice (some ⟨b, o, none⟩) 64 cp)] ⟨rfl, rfl, trivial⟩ fun J => ?_)
  refine CW.seq (CW.drawn (fun w => Rd w wb wo 16 .u32 m) [(0, true), (1, true), (2, true), (3, true), (4, true), (5, true), (6, false)] mixed (by kernel_rfl) (by kernel_rfl) ?_)
  have hS := (hM6.rd hm (by simpa using hne)).drew
  refine OW.val hS rfl rfl rfl (fun _ _ => r_move) ?_
  refine OW.val hS rfl rfl rfl (fun _ _ => r_slc_lh rfl rfl rfl slc22 (by decide) (by decide) (by omega) (by omega)) ?_
  refine OW.val hS rfl rfl rfl (fun _ _ => r_move) ?_
  refine OW.val hS rfl rfl rfl (fun _ _ => r_nil rfl) ?_
  refine OW.val hS rfl rfl rfl (fun _ _ => r_index_arr rfl rfl arr57 (by decide) (by decide)) ?_
  refine OW.val hS rfl rfl rfl (fun _ hS => r_load rfl one43 (hS 6 (by decide))) ?_
  refine OW.call rfl rfl rfl (e_call en32) ?_
  refine (put32_any b (o + 24) _ _ nb _ tb (m 6) _ (by decide) hB6.drew (by omega)).mono ?_
  rintro e w7 ⟨rfl, hM', hB'⟩
  have hM7 := (hM6.trans (Mod.drew [] _) (by simp)).trans hM' (by simp)
  have hB7 := (congrArg (fun c => Blk w7 b nb c tb) (put_app cb o 24 4 (w2b m) (byteW (m 6)) (hv 6))).mp hB'
  refine ⟨_, rfl, hM7.rd hm (by simpa using hne), ?_⟩
  clear hS
  refine OW.nil (CW.base [(0, .pointer (some ⟨wb, wo, none⟩)), (1, .slice (some ⟨b, o, none⟩) 64 cp)] ⟨rfl, rfl, trivial⟩ fun J => ?_)
  refine CW.seq (CW.drawn (fun w => Rd w wb wo 16 .u32 m) [(0, true), (1, true), (2, true), (3, true), (4, true), (5, true), (6, false)] mixed (by kernel_rfl) (by kernel_rfl) ?_)
  have hS := (hM7.rd hm (by simpa using hne)).drew
  refine OW.val hS rfl rfl rfl (fun _ _ => r_move) ?_
  refine OW.val hS rfl rfl rfl (fun _ _ => r_slc_lh rfl rfl rfl slc22 (by decide) (by decide) (by omega) (by omega)) ?_
  refine OW.val hS rfl rfl rfl (fun _ _ => r_move) ?_
  refine OW.val hS rfl rfl rfl (fun _ _ => r_nil rfl) ?_
  refine OW.val hS rfl rfl rfl (fun _ _ => r_index_arr rfl rfl arr57 (by decide) (by decide)) ?_
  refine OW.val hS rfl rfl rfl (fun _ hS => r_load rfl one43 (hS 7 (by decide))) ?_
  refine OW.call rfl rfl rfl (e_call en32) ?_
  refine (put32_any b (o + 28) _ _ nb _ tb (m 7) _ (by decide) hB7.drew (by omega)).mono ?_
  rintro e w8 ⟨rfl, hM', hB'⟩
  have hM8 := (hM7.trans (Mod.drew [] _) (by simp)).trans hM' (by simp)
  have hB8 := (congrArg (fun c => Blk w8 b nb c tb) (put_app cb o 28 4 (w2b m) (byteW (m 7)) (hv 7))).mp hB'
  refine ⟨_, rfl, hM8.rd hm (by simpa using hne), ?_⟩
  clear hS
  refine OW.nil (CW.base [(0, .pointer (some ⟨wb, wo, none⟩)), (1, .slice (some ⟨b, o, none⟩) 64 cp)] ⟨rfl, rfl, trivial⟩ fun J => ?_)
  refine CW.seq (CW.drawn (fun w => Rd w wb wo 16 .u32 m) [(0, true), (1, true), (2, true), (3, true), (4, true), (5, true), (6, false)] mixed (by kernel_rfl) (by kernel_rfl) ?_)
  have hS := (hM8.rd hm (by simpa using hne)).drew
  refine OW.val hS rfl rfl rfl (fun _ _ => r_move) ?_
  refine OW.val hS rfl rfl rfl (fun _ _ => r_slc_lh rfl rfl rfl slc22 (by decide) (by decide) (by omega) (by omega)) ?_
  refine OW.val hS rfl rfl rfl (fun _ _ => r_move) ?_
  refine OW.val hS rfl rfl rfl (fun _ _ => r_nil rfl) ?_
  refine OW.val hS rfl rfl rfl (fun _ _ => r_index_arr rfl rfl arr57 (by decide) (by decide)) ?_
  refine OW.val hS rfl rfl rfl (fun _ hS => r_load rfl one43 (hS 8 (by decide))) ?_
  refine OW.call rfl rfl rfl (e_call en32) ?_
  refine (put32_any b (o + 32) _ _ nb _ tb (m 8) _ (by decide) hB8.drew (by omega)).mono ?_
  rintro e w9 ⟨rfl, hM', hB'⟩
  have hM9 := (hM8.trans (Mod.drew [] _) (by simp)).trans hM' (by simp)
  have hB9 := (congrArg (fun c => Blk w9 b nb c tb) (put_app cb o 32 4 (w2b m) (byteW (m 8)) (hv 8))).mp hB'
  refine ⟨_, rfl, hM9.rd hm (by simpa using hne), ?_⟩
  clear hS
  refine OW.nil (CW.base [(0, .pointer (some ⟨wb, wo, none⟩)), (1, .slice (some ⟨b, o, none⟩) 64 cp)] ⟨rfl, rfl, trivial⟩ fun J => ?_)
  refine CW.seq (CW.drawn (fun w => Rd w wb wo 16 .u32 m) [(0, true), (1, true), (2, true), (3, true), (4, true), (5, true), (6, false)] mixed (by kernel_rfl) (by kernel_rfl) ?_)
  have hS := (hM9.rd hm (by simpa using hne)).drew
  refine OW.val hS rfl rfl rfl (fun _ _ => r_move) ?_
  refine OW.val hS rfl rfl rfl (fun _ _ => r_slc_lh rfl rfl rfl slc22 (by decide) (by decide) (by omega) (by omega)) ?_
  refine OW.val hS rfl rfl rfl (fun _ _ => r_move) ?_
  refine OW.val hS rfl rfl rfl (fun _ _ => r_nil rfl) ?_
  refine OW.val hS rfl rfl rfl (fun _ _ => r_index_arr rfl rfl arr57 (by decide) (by decide)) ?_
  refine OW.val hS rfl rfl rfl (fun _ hS => r_load rfl one43 (hS 9 (by decide))) ?_
  refine OW.call rfl rfl rfl (e_call en32) ?_
  refine (put32_any b (o + 36) _ _ nb _ tb (m 9) _ (by decide) hB9.drew (by omega)).mono ?_
  rintro e w10 ⟨rfl, hM', hB'⟩
  have hM10 := (hM9.trans (Mod.drew [] _) (by simp)).trans hM' (by simp)
  have hB10 := (congrArg (fun c => Blk w10 b nb c tb) (put_app cb o 36 4 (w2b m) (byteW (m 9)) (hv 9))).mp hB'
  refine ⟨_, rfl, hM10.rd hm (by simpa using hne), ?_⟩
  clear hS
  refine OW.nil (CW.base [(0, .pointer (some ⟨wb, wo, none⟩)), (1, .slice (some ⟨b, o, none⟩) 64 cp)] ⟨rfl, rfl, trivial⟩ fun J => ?_)
  refine CW.seq (CW.drawn (fun w => Rd w wb wo 16 .u32 m) [(0, true), (1, true), (2, true), (3, true), (4, true), (5, true), (6, false)] mixed (by kernel_rfl) (by kernel_rfl) ?_)
  have hS := (hM10.rd hm (by simpa using hne)).drew
  refine OW.val hS rfl rfl rfl (fun _ _ => r_move) ?_
  refine OW.val hS rfl rfl rfl (fun _ _ => r_slc_lh rfl rfl rfl slc22 (by decide) (by decide) (by omega) (by omega)) ?_
  refine OW.val hS rfl rfl rfl (fun _ _ => r_move) ?_
  refine OW.val hS rfl rfl rfl (fun _ _ => r_nil rfl) ?_
  refine OW.val hS rfl rfl rfl (fun _ _ => r_index_arr rfl rfl arr57 (by decide) (by decide)) ?_
  refine OW.val hS rfl rfl rfl (fun _ hS => r_load rfl one43 (hS 10 (by decide))) ?_
  refine OW.call rfl rfl rfl (e_call en32) ?_
  refine (put32_any b (o + 40) _ _ nb _ tb (m 10) _ (by decide) hB10.drew (by omega)).mono ?_
  rintro e w11 ⟨rfl, hM', hB'⟩
  have hM11 := (hM10.trans (Mod.drew [] _) (by simp)).trans hM' (by simp)
  have hB11 := (congrArg (fun c => Blk w11 b nb c tb) (put_app cb o 40 4 (w2b m) (byteW (m 10)) (hv 10))).mp hB'
  refine ⟨_, rfl, hM11.rd hm (by simpa using hne), ?_⟩
  clear hS
  refine OW.nil (CW.base [(0, .pointer (some ⟨wb, wo, none⟩)), (1, .slice (some ⟨b, o, none⟩) 64 cp)] ⟨rfl, rfl, trivial⟩ fun J => ?_)
  refine CW.seq (CW.drawn (fun w => Rd w wb wo 16 .u32 m) [(0, true), (1, true), (2, true), (3, true), (4, true), (5, true), (6, false)] mixed (by kernel_rfl) (by kernel_rfl) ?_)
  have hS := (hM11.rd hm (by simpa using hne)).drew
  refine OW.val hS rfl rfl rfl (fun _ _ => r_move) ?_
  refine OW.val hS rfl rfl rfl (fun _ _ => r_slc_lh rfl rfl rfl slc22 (by decide) (by decide) (by omega) (by omega)) ?_
  refine OW.val hS rfl rfl rfl (fun _ _ => r_move) ?_
  refine OW.val hS rfl rfl rfl (fun _ _ => r_nil rfl) ?_
  refine OW.val hS rfl rfl rfl (fun _ _ => r_index_arr rfl rfl arr57 (by decide) (by decide)) ?_
  refine OW.val hS rfl rfl rfl (fun _ hS => r_load rfl one43 (hS 11 (by decide))) ?_
  refine OW.call rfl rfl rfl (e_call en32) ?_
  refine (put32_any b (o + 44) _ _ nb _ tb (m 11) _ (by decide) hB11.drew (by omega)).mono ?_
  rintro e w12 ⟨rfl, hM', hB'⟩
  have hM12 := (hM11.trans (Mod.drew [] _) (by simp)).trans hM' (by simp)
  have hB12 := (congrArg (fun c => Blk w12 b nb c tb) (put_app cb o 44 4 (w2b m) (byteW (m 11)) (hv 11))).mp hB'
  refine ⟨_, rfl, hM12.rd hm (by simpa using hne), ?_⟩
  clear hS
  refine OW.nil (CW.base [(0, .pointer (some ⟨wb, wo, none⟩)), (1, .slice (some ⟨b, o, none⟩) 64 cp)] ⟨rfl, rfl, trivial⟩ fun J => ?_)
  refine CW.seq (CW.drawn (fun w => Rd w wb wo 16 .u32 m) [(0, true), (1, true), (2, true), (3, true), (4, true), (5, true), (6, false)] mixed (by kernel_rfl) (by kernel_rfl) ?_)
  have hS := (hM12.rd hm (by simpa using hne)).drew
  refine OW.val hS rfl rfl rfl (fun _ _ => r_move) ?_
  refine OW.val hS rfl rfl rfl (fun _ _ => r_slc_lh rfl rfl rfl slc22 (by decide) (by decide) (by omega) (by omega)) ?_
  refine OW.val hS rfl rfl rfl (fun _ _ => r_move) ?_
  refine OW.val hS rfl rfl rfl (fun _ _ => r_nil rfl) ?_
  refine OW.val hS rfl rfl rfl (fun _ _ => r_index_arr rfl rfl arr57 (by decide) (by decide)) ?_
  refine OW.val hS rfl rfl rfl (fun _ hS => r_load rfl one43 (hS 12 (by decide))) ?_
  refine OW.call rfl rfl rfl (e_call en32) ?_
  refine (put32_any b (o + 48) _ _ nb _ tb (m 12) _ (by decide) hB12.drew (by omega)).mono ?_
  rintro e w13 ⟨rfl, hM', hB'⟩
  have hM13 := (hM12.trans (Mod.drew [] _) (by simp)).trans hM' (by simp)
  have hB13 := (congrArg (fun c => Blk w13 b nb c tb) (put_app cb o 48 4 (w2b m) (byteW (m 12)) (hv 12))).mp hB'
  refine ⟨_, rfl, hM13.rd hm (by simpa using hne), ?_⟩
  clear hS
  refine OW.nil (CW.base [(0, .pointer (some ⟨wb, wo, none⟩)), (1, .slice (some ⟨b, o, none⟩) 64 cp)] ⟨rfl, rfl, trivial⟩ fun J => ?_)
  refine CW.seq (CW.drawn (fun w => Rd w wb wo 16 .u32 m) [(0, true), (1, true), (2, true), (3, true), (4, true), (5, true), (6, false)] mixed (by kernel_rfl) (by kernel_rfl) ?_)
  have hS := (hM13.rd hm (by simpa using hne)).drew
  refine OW.val hS rfl rfl rfl (fun _ _ => r_move) ?_
  refine OW.val hS rfl rfl rfl (fun _ _ => r_slc_lh rfl rfl rfl slc22 (by decide) (by decide) (by omega) (by omega)) ?_
  refine OW.val hS rfl rfl rfl (fun _ _ => r_move) ?_
  refine OW.val hS rfl rfl rfl (fun _ _ => r_nil rfl) ?_
  refine OW.val hS rfl rfl rfl (fun _ _ => r_index_arr rfl rfl arr57 (by decide) (by decide)) ?_
  refine OW.val hS rfl rfl rfl (fun _ hS => r_load rfl one43 (hS 13 (by decide))) ?_
  refine OW.call rfl rfl rfl (e_call en32) ?_
  refine (put32_any b (o + 52) _ _ nb _ tb (m 13) _ (by decide) hB13.drew (by omega)).mono ?_
  rintro e w14 ⟨rfl, hM', hB'⟩
  have hM14 := (hM13.trans (Mod.drew [] _) (by simp)).trans hM' (by simp)
  have hB14 := (congrArg (fun c => Blk w14 b nb c tb) (put_app cb o 52 4 (w2b m) (byteW (m 13)) (hv 13))).mp hB'
  refine ⟨_, rfl, hM14.rd hm (by simpa using hne), ?_⟩
  clear hS
  refine OW.nil (CW.base [(0, .pointer (some ⟨wb, wo, none⟩)), (1, .slice (some ⟨b, o, none⟩) 64 cp)] ⟨rfl, rfl, trivial⟩ fun J => ?_)
  refine CW.seq (CW.drawn (fun w => Rd w wb wo 16 .u32 m) [(0, true), (1, true), (2, true), (3, true), (4, true), (5, true), (6, false)] mixed (by kernel_rfl) (by kernel_rfl) ?_)
  have hS := (hM14.rd hm (by simpa using hne)).drew
  refine OW.val hS rfl rfl rfl (fun _ _ => r_move) ?_
  refine OW.val hS rfl rfl rfl (fun _ _ => r_slc_lh rfl rfl rfl slc22 (by decide) (by decide) (by omega) (by omega)) ?_
  refine OW.val hS rfl rfl rfl (fun _ _ => r_move) ?_
  refine OW.val hS rfl rfl rfl (fun _ _ => r_nil rfl) ?_
  refine OW.val hS rfl rfl rfl (fun _ _ => r_index_arr rfl rfl arr57 (by decide) (by decide)) ?_
  refine OW.val hS rfl rfl rfl (fun _ hS => r_load rfl one43 (hS 14 (by decide))) ?_
  refine OW.call rfl rfl rfl (e_call en32) ?_
  refine (put32_any b (o + 56) _ _ nb _ tb (m 14) _ (by decide) hB14.drew (by omega)).mono ?_
  rintro e w15 ⟨rfl, hM', hB'⟩
  have hM15 := (hM14.trans (Mod.drew [] _) (by simp)).trans hM' (by simp)
  have hB15 := (congrArg (fun c => Blk w15 b nb c tb) (put_app cb o 56 4 (w2b m) (byteW (m 14)) (hv 14))).mp hB'
  refine ⟨_, rfl, hM15.rd hm (by simpa using hne), ?_⟩
  clear hS
  refine OW.nil (CW.base [(0, .pointer (some ⟨wb, wo, none⟩)), (1, .slice (some ⟨b, o, none⟩) 64 cp)] ⟨rfl, rfl, trivial⟩ fun J => ?_)
  refine CW.drawn (fun w => Rd w wb wo 16 .u32 m) [(0, true), (1, true), (2, true), (3, true), (4, true), (5, true), (6, false)] mixed (by kernel_rfl) (by kernel_rfl) ?_
  have hS := (hM15.rd hm (by simpa using hne)).drew
  refine OW.val hS rfl rfl rfl (fun _ _ => r_move) ?_
  refine OW.val hS rfl rfl rfl (fun _ _ => r_slc_lh rfl rfl rfl slc22 (by decide) (by decide) (by omega) (by omega)) ?_
  refine OW.val hS rfl rfl rfl (fun _ _ => r_move) ?_
  refine OW.val hS rfl rfl rfl (fun _ _ => r_nil rfl) ?_
  refine OW.val hS rfl rfl rfl (fun _ _ => r_index_arr rfl rfl arr57 (by decide) (by decide)) ?_
  refine OW.val hS rfl rfl rfl (fun _ hS => r_load rfl one43 (hS 15 (by decide))) ?_
  refine OW.call rfl rfl rfl (e_call en32) ?_
  refine (put32_any b (o + 60) _ _ nb _ tb (m 15) _ (by decide) hB15.drew (by omega)).mono ?_
  rintro e w16 ⟨rfl, hM', hB'⟩
  have hM16 := (hM15.trans (Mod.drew [] _) (by simp)).trans hM' (by simp)
  have hB16 := (congrArg (fun c => Blk w16 b nb c tb) (put_app cb o 60 4 (w2b m) (byteW (m 15)) (hv 15))).mp hB'
  refine ⟨_, rfl, hM16.rd hm (by simpa using hne), ?_⟩
  exact OW.nil ⟨_, RetV.none rfl, rfl, hM16, hB16⟩
end Go.Proofs.YtfaopfaghnefdaaDoor
