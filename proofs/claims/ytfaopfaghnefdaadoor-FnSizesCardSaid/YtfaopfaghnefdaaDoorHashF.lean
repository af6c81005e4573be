/- HashF and the two functions that hand on to it: the chaining values of up to eight chunks, and the one ahead of the last block. Conditions: input, key, answer and chain lie in blocks of their own; 0 < length ≤ 8192. -/
import Derived.Test.YtfaopfaghnefdaaDoorSt
namespace Go.Proofs.YtfaopfaghnefdaaDoor
open Go
theorem en28 : Enters Tryd.prog 28 := ⟨_, Tryd.func28, by kernel_rfl, rfl⟩
theorem en40 : Enters Tryd.prog 40 := ⟨_, Tryd.func40, by kernel_rfl, rfl⟩
theorem en34 : Enters Tryd.prog 34 := ⟨_, Tryd.func34, by kernel_rfl, rfl⟩
theorem en26 : Enters Tryd.prog 26 := ⟨_, Tryd.func26, by kernel_rfl, rfl⟩
theorem zero44 : (Tryd.prog.info? 44).map (·.zero) = some (some (aggF 8 fun _ => .int .u32 0)) := by kernel_rfl
theorem zeroF44 : ZeroIs Tryd.prog 44 8 (fun _ => .int .u32 0) := ⟨_, zero44, rfl⟩
/-- A piece of code told once, then the rest in a frame of which only this is kept. -/
theorem CW.cut {P : Program} {N : Nat} {k : Cont} {E : Env} {w : World} {x : Code} (l : List (Nat × Value)) (φ : World → Prop)
    (hx : CW P N x { nrm := fun E w => agrees E l ∧ φ w, ret := fun _ _ => False, brk := fun _ _ _ => False } E w) (hy : ∀ (J : Env) (w : World), φ w → k.nrm (tab J l) w) : CW P N x k E w :=
  CW.mono hx (fun E w h => by have := hy E w h.2; rwa [tab_of_agrees E l h.1] at this) (fun _ _ h => h.elim) (fun _ _ _ h => h.elim)
theorem wN {a : Int} {m : Nat} (h : a = (m : Int)) (hm : m < 18446744073709551616) : IntKind.u64.wrap a = (m : Int) := by rw [h, wrap_u64 (by omega) (by omega)]
theorem Mod.old2 {T : List Nat} {w w' w'' : World} {g : Nat} (h : Mod T w w') (h' : Mod [g] w' w'') (hg : g ∈ T) : Mod T w w'' := h.old h' hg
def hfBF (flags : Int) (n : Nat) : Int := if n = 0 then bw .or .u32 flags 1 else flags
def hfFl (flags : Int) (n : Nat) : Int := if n = 15 then bw .or .u32 (hfBF flags n) 2 else hfBF flags n
/-- The chaining value of chunk i ahead of its block n. -/
def hfB (D K : Nat → Int) (ctr : Nat) (flags : Int) (i : Nat) : Nat → Nat → Int
  | 0 => K
  | n + 1 => compF (hfB D K ctr flags i n) (b2w fun j => D (1024 * i + 64 * n + j)) ((ctr + i : Nat) : Int) 64 (hfFl flags n)
def hfCnt (len i : Nat) : Nat := if 1024 * i + 1024 ≤ len then 16 else (len - 1024 * i + 63) / 64
def hfG (D K : Nat → Int) (ctr : Nat) (flags : Int) (len i : Nat) : Nat → Int := hfB D K ctr flags i (hfCnt len i)
/-- The chaining value ahead of the last block. -/
def hfC (D K : Nat → Int) (ctr : Nat) (flags : Int) (len : Nat) : Nat → Int := hfB D K ctr flags ((len - 1) / 64 / 16) ((len - 1) / 64 % 16)
def hfN (len : Nat) : Nat := (len + 1023) / 1024
theorem hfCnt_eq {len i n : Nat} (hi : 1024 * i < len) (h1 : n ≤ 16) (h2 : n = 0 ∨ 1024 * i + 64 * (n - 1) < len) (h3 : n = 16 ∨ len ≤ 1024 * i + 64 * n) : hfCnt len i = n := by
  unfold hfCnt; split <;> omega
/-- The chain's cells when all blocks ahead of this place are hashed. -/
def hfCh (c : Nat → Value) (o len at' : Nat) (X : Nat → Int) : Nat → Value := if at' < len then c else put c o 8 (fun j => .int .u32 (X j))
theorem hfCh_lt {c : Nat → Value} {o len at' : Nat} {X : Nat → Int} (h : at' < len) : hfCh c o len at' X = c := if_pos h
theorem hfCh_ge {c : Nat → Value} {o len at' : Nat} {X : Nat → Int} (h : len ≤ at') : hfCh c o len at' X = put c o 8 (fun j => .int .u32 (X j)) := if_neg (by omega)
def hfPhi (w : World) (ob no : Nat) (to : TypeId) (cO : Nat → Value) (cb nc : Nat) (tc : TypeId) (cC : Nat → Value) (tb : Nat) (w' : World) : Prop := Mod [ob, cb] w w' ∧ Blk w' ob no cO to ∧ Blk w' cb nc cC tc ∧ ∃ cT, Blk w' tb 16 cT 57
def hfPsi (w : World) (ob no : Nat) (to : TypeId) (cO : Nat → Value) (cb nc : Nat) (tc : TypeId) (cC : Nat → Value) (tb bb : Nat) (X : Nat → Int) (w' : World) : Prop := hfPhi w ob no to cO cb nc tc cC tb w' ∧ w.heap.size ≤ bb ∧ bb ≠ tb ∧ bb < w'.heap.size ∧ Blk w' bb 8 (fun j => .int .u32 (X j)) 44
theorem s17 {P : Program} {ρ : Operand → Value} {w : World} {dst : Option Tmp} {ty : TypeId} {pos : String} {af : Array Edge} {gd : Option (Nat × Bool)} {x lo : Operand} {ib io m : Nat} (hx : ρ x = .pointer (some ⟨ib, io, none⟩)) (hl : ρ lo = .int .u64 ((m : Nat) : Int)) (ht : ArrAt P 52 8192 1) (h : m < 8192) :
    (execOp ρ ⟨dst, .slice 52 x (some lo) none none, ty, pos, af, gd⟩).run P w = .ok (.value (.slice (some ⟨ib, io + m, none⟩) (8192 - m) (8192 - m))) w := by
  rw [r_arr_l hx hl ht (by omega) (by omega)]; simp
set_option maxHeartbeats 4000000 in
theorem hashf_any (ib io len ctr kb ko ob oo no cb co nc : Nat) (cO cC : Nat → Value) (to tc : TypeId) (D K : Nat → Int) (flags : Int) (w : World) (hD : Rd w ib io 8192 .u8 D) (hK : Rd w kb ko 8 .u32 K)
    (hio : ib ≠ ob) (hic : ib ≠ cb) (hko : kb ≠ ob) (hkc : kb ≠ cb) (hoc : ob ≠ cb) (hO : Blk w ob no cO to) (ho : oo + 64 ≤ no) (hC : Blk w cb nc cC tc) (hc : co + 8 ≤ nc) (hl0 : 0 < len) (hl : len ≤ 8192) (hctr : ctr < 4611686018427387904) :
    Calls Tryd.prog 40 #[.pointer (some ⟨ib, io, none⟩), .int .u64 ((len : Nat) : Int), .int .u64 ((ctr : Nat) : Int), .int .u32 flags, .pointer (some ⟨kb, ko, none⟩), .pointer (some ⟨ob, oo, none⟩), .pointer (some ⟨cb, co, none⟩)] w fun e w' => e = .returned (.tuple #[]) ∧ Mod [ob, cb] w w' ∧ Blk w' ob no (hpC cO oo (hfN len) (hfG D K ctr flags len)) to ∧ Blk w' cb nc (put cC co 8 (fun j => .int .u32 ((hfC D K ctr flags len) j))) tc := by
  refine calls_of_CW (l := [_, _, _, _, _, _, _]) (N := 139) Tryd.func40 rfl rfl rfl ?_
  refine CW.seq (CW.region (LW.val rfl rfl (r_alloc zeroF57) (LW.nil ?_)))
  refine CW.seq (CW.region (LW.val rfl rfl r_assign (LW.nil ?_)))
  obtain ⟨tb, htb⟩ : ∃ tb, tb = w.heap.size := ⟨_, rfl⟩
  have hOL := hO.lt
  have hOT : ob ≠ tb := hO.ne (by omega)
  have hCT : cb ≠ tb := hC.ne (by omega)
  have hP : hfPhi w ob no to (hpC cO oo 0 (hfG D K ctr flags len)) cb nc tc (hfCh cC co len (1024 * 0) (hfC D K ctr flags len)) tb (w.alloc (.cells (Array.ofFn (n := 16) fun i => (fun _ => Value.int .u32 0) i.val) 57)) :=
    ⟨(Mod.refl _ _).none (Mod.alloc _ _), by rw [hpC_zero]; exact (Mod.alloc w _).blk hO (by simp), by rw [hfCh_lt (by omega)]; exact (Mod.alloc w _).blk hC (by simp), _, by rw [htb]; exact Blk.new w 16 (fun _ => Value.int .u32 0) 57⟩
  rw [← htb]
  refine CW.block (CW.loop (fun q E w' => ∃ (i : Nat) (J : Env), i + q = 9 ∧ 1024 * i < len + 1024 ∧ E = tab (α := Value) J [(0, .pointer (some ⟨ib, io, none⟩)), (1, .int .u64 ((len : Nat) : Int)), (2, .int .u64 ((ctr + i : Nat) : Int)), (3, .int .u32 flags), (4, .pointer (some ⟨kb, ko, none⟩)), (5, .pointer (some ⟨ob, oo, none⟩)), (6, .pointer (some ⟨cb, co, none⟩)), (14, .pointer (some ⟨tb, 0, none⟩)), (15, .int .u64 ((i : Nat) : Int))] ∧ hfPhi w ob no to (hpC cO oo i (hfG D K ctr flags len)) cb nc tc (hfCh cC co len (1024 * i) (hfC D K ctr flags len)) tb w') 9 ?_ ?_)
  · exact ⟨0, _, by omega, by omega, (tab_of_agrees (α := Value) _ [(0, .pointer (some ⟨ib, io, none⟩)), (1, .int .u64 ((len : Nat) : Int)), (2, .int .u64 ((ctr + 0 : Nat) : Int)), (3, .int .u32 flags), (4, .pointer (some ⟨kb, ko, none⟩)), (5, .pointer (some ⟨ob, oo, none⟩)), (6, .pointer (some ⟨cb, co, none⟩)), (14, .pointer (some ⟨tb, 0, none⟩)), (15, .int .u64 ((0 : Nat) : Int))] ⟨rfl, rfl, rfl, rfl, rfl, rfl, rfl, rfl, rfl, trivial⟩).symm, hP⟩
  · rintro q E w' ⟨i, J, hq, hin, rfl, hP'⟩
    clear hP
    by_cases hlt : 1024 * i < len
    · have hi8 : i < 8 := by omega
      first | refine CW.seq (CW.region ?_) | refine CW.seq (CW.seq (CW.region ?_))
      refine LW.val rfl rfl (r_move) ?_
      refine LW.val rfl rfl (r_mulE rfl rfl (wN (m := 1024 * i) (by omega) (by omega))) ?_
      refine LW.val rfl rfl (r_move) ?_
      refine LW.val rfl rfl (r_lssE rfl rfl (q := true) (decide_eq_true (by omega))) ?_
      refine LW.val rfl rfl (r_move) ?_
      refine LW.gval (gyes rfl rfl rfl rfl rfl) rfl (r_move) ?_
      refine LW.gval (gyes rfl rfl rfl rfl rfl) rfl (r_lssE rfl rfl (q := true) (decide_eq_true (by omega))) ?_
      refine LW.val rfl rfl (r_pick rfl) ?_
      refine LW.nil ?_
      first | refine CW.cond_t rfl (CW.skip ?_) | refine CW.seq (CW.cond_t rfl (CW.skip ?_))
      refine CW.seq (CW.block ?_)
      obtain ⟨hM, hO1, hC1, cT, hT1⟩ := hP'
      obtain ⟨bb, hbb⟩ : ∃ bb, bb = w'.heap.size := ⟨_, rfl⟩
      have hOB : ob ≠ bb := hO1.ne (by omega)
      have hCB : cb ≠ bb := hC1.ne (by omega)
      have hTB : tb ≠ bb := hT1.ne (by omega)
      have hwb : w.heap.size ≤ bb := by have := hM.size; omega
      first | refine CW.seq (CW.region ?_) | refine CW.seq (CW.seq (CW.region ?_))
      refine LW.val rfl rfl (r_move) ?_
      refine LW.val rfl rfl (r_nil rfl) ?_
      refine LW.val rfl rfl (r_loadA (m := 8) (f := fun j => .int .u32 (K j)) rfl agg44 (fun j hj => (hM.rd hK (by simp [hko, hkc])) j hj)) ?_
      refine LW.val rfl rfl (r_alloc zeroF44) ?_
      refine LW.eff rfl rfl (r_storeA (m := 8) (f := fun j => .int .u32 (K j)) rfl rfl agg44 (fun _ _ => rfl) (Blk.new w' 8 (fun _ => Value.int .u32 0) 44) (by decide)) ?_
      refine LW.nil ?_
      have hMA := Mod.alloc w' (.cells (Array.ofFn (n := 8) fun i => (fun _ => Value.int .u32 0) i.val) 44)
      have hBA := (Blk.new w' 8 (fun _ => Value.int .u32 0) 44).putC (o := 0) (m := 8) (f := fun j => .int .u32 (K j)) (by decide)
      have hMP := Mod.putC (w'.alloc (.cells (Array.ofFn (n := 8) fun i => (fun _ => Value.int .u32 0) i.val) 44)) w'.heap.size 0 8 (fun j => .int .u32 (K j))
      have hsz : w'.heap.size < (putC (w'.alloc (.cells (Array.ofFn (n := 8) fun i => (fun _ => Value.int .u32 0) i.val) 44)) w'.heap.size 0 8 (fun j => .int .u32 (K j))).heap.size := hBA.lt
      rw [← hbb] at hBA hMP hsz ⊢
      have hPs : hfPsi w ob no to (hpC cO oo i (hfG D K ctr flags len)) cb nc tc (hfCh cC co len (1024 * i + 64 * 0) (hfC D K ctr flags len)) tb bb (hfB D K ctr flags i 0) (putC (w'.alloc (.cells (Array.ofFn (n := 8) fun i => (fun _ => Value.int .u32 0) i.val) 44)) bb 0 8 (fun j => .int .u32 (K j))) :=
        ⟨⟨(hM.none hMA).fresh hMP hwb, hMP.blk (hMA.blk hO1 (by simp)) (by simpa using hOB), by rw [Nat.mul_zero, Nat.add_zero]; exact hMP.blk (hMA.blk hC1 (by simp)) (by simpa using hCB), cT, hMP.blk (hMA.blk hT1 (by simp)) (by simpa using hTB)⟩, hwb, Ne.symm hTB, hsz, hBA.congr fun j hj => by rw [put_in _ _ (by omega)]; rfl⟩
      clear hM hO1 hC1 hT1 hMA hBA hMP hsz
      first | refine CW.seq (CW.region ?_) | refine CW.seq (CW.seq (CW.region ?_))
      refine LW.val rfl rfl (r_move) ?_
      refine LW.val rfl rfl (r_or rfl rfl) ?_
      refine LW.val rfl rfl (r_assign) ?_
      refine LW.nil ?_
      first | refine CW.seq (CW.region ?_) | refine CW.seq (CW.seq (CW.region ?_))
      refine LW.val rfl rfl (r_move) ?_
      refine LW.val rfl rfl (r_mulE rfl rfl (wN (m := 1024 * i) (by omega) (by omega))) ?_
      refine LW.val rfl rfl (r_assign) ?_
      refine LW.nil ?_
      first | refine CW.seq (CW.region ?_) | refine CW.seq (CW.seq (CW.region ?_))
      refine LW.val rfl rfl (r_assign) ?_
      refine LW.nil ?_
      refine CW.cut [(0, .pointer (some ⟨ib, io, none⟩)), (1, .int .u64 ((len : Nat) : Int)), (2, .int .u64 ((ctr + i : Nat) : Int)), (3, .int .u32 flags), (4, .pointer (some ⟨kb, ko, none⟩)), (5, .pointer (some ⟨ob, oo, none⟩)), (6, .pointer (some ⟨cb, co, none⟩)), (14, .pointer (some ⟨tb, 0, none⟩)), (15, .int .u64 ((i : Nat) : Int)), (16, .pointer (some ⟨bb, 0, none⟩))] (hfPsi w ob no to (hpC cO oo i (hfG D K ctr flags len)) cb nc tc (hfCh cC co len (1024 * (i + 1)) (hfC D K ctr flags len)) tb bb (hfG D K ctr flags len i)) ?_ ?_
      · refine CW.block (CW.loop (fun q E w' => ∃ (n : Nat) (J : Env), n + q = 17 ∧ n ≤ 16 ∧ (n = 0 ∨ 1024 * i + 64 * (n - 1) < len) ∧ E = tab (α := Value) J [(0, .pointer (some ⟨ib, io, none⟩)), (1, .int .u64 ((len : Nat) : Int)), (2, .int .u64 ((ctr + i : Nat) : Int)), (3, .int .u32 flags), (4, .pointer (some ⟨kb, ko, none⟩)), (5, .pointer (some ⟨ob, oo, none⟩)), (6, .pointer (some ⟨cb, co, none⟩)), (14, .pointer (some ⟨tb, 0, none⟩)), (15, .int .u64 ((i : Nat) : Int)), (16, .pointer (some ⟨bb, 0, none⟩)), (17, .int .u32 (hfBF flags n)), (18, .int .u64 ((1024 * i : Nat) : Int)), (19, .int .u64 ((n : Nat) : Int))] ∧ hfPsi w ob no to (hpC cO oo i (hfG D K ctr flags len)) cb nc tc (hfCh cC co len (1024 * i + 64 * n) (hfC D K ctr flags len)) tb bb (hfB D K ctr flags i n) w') 17 ?_ ?_)
        · exact ⟨0, _, by omega, by omega, Or.inl rfl, (tab_of_agrees (α := Value) _ [(0, .pointer (some ⟨ib, io, none⟩)), (1, .int .u64 ((len : Nat) : Int)), (2, .int .u64 ((ctr + i : Nat) : Int)), (3, .int .u32 flags), (4, .pointer (some ⟨kb, ko, none⟩)), (5, .pointer (some ⟨ob, oo, none⟩)), (6, .pointer (some ⟨cb, co, none⟩)), (14, .pointer (some ⟨tb, 0, none⟩)), (15, .int .u64 ((i : Nat) : Int)), (16, .pointer (some ⟨bb, 0, none⟩)), (17, .int .u32 (hfBF flags 0)), (18, .int .u64 ((1024 * i : Nat) : Int)), (19, .int .u64 ((0 : Nat) : Int))] ⟨rfl, rfl, rfl, rfl, rfl, rfl, rfl, rfl, rfl, rfl, rfl, rfl, rfl, trivial⟩).symm, hPs⟩
        · clear hPs J
          rintro q2 E w1 ⟨n, J, hq2, hn16, hnl, rfl, ⟨⟨hM, hO1, hC1, cT, hT1⟩, hwb, hTB', hbl, hB1⟩⟩
          by_cases hn : n < 16
          · first | refine CW.seq (CW.region ?_) | refine CW.seq (CW.seq (CW.region ?_))
            refine LW.val rfl rfl (r_move) ?_
            refine LW.val rfl rfl (r_lssE rfl rfl (q := true) (decide_eq_true (by omega))) ?_
            refine LW.nil ?_
            first | refine CW.cond_t rfl (CW.skip ?_) | refine CW.seq (CW.cond_t rfl (CW.skip ?_))
            refine CW.seq (CW.block ?_)
            first | refine CW.seq (CW.region ?_) | refine CW.seq (CW.seq (CW.region ?_))
            refine LW.val rfl rfl (r_move) ?_
            refine LW.val rfl rfl (r_eqlE rfl rfl (q := decide (n = 15)) (by by_cases h : n = 15 <;> simp [h] <;> omega)) ?_
            refine LW.nil ?_
            refine CW.cut [(0, .pointer (some ⟨ib, io, none⟩)), (1, .int .u64 ((len : Nat) : Int)), (2, .int .u64 ((ctr + i : Nat) : Int)), (3, .int .u32 flags), (4, .pointer (some ⟨kb, ko, none⟩)), (5, .pointer (some ⟨ob, oo, none⟩)), (6, .pointer (some ⟨cb, co, none⟩)), (14, .pointer (some ⟨tb, 0, none⟩)), (15, .int .u64 ((i : Nat) : Int)), (16, .pointer (some ⟨bb, 0, none⟩)), (17, .int .u32 (hfFl flags n)), (18, .int .u64 ((1024 * i : Nat) : Int)), (19, .int .u64 ((n : Nat) : Int))] (hfPsi w ob no to (hpC cO oo i (hfG D K ctr flags len)) cb nc tc (hfCh cC co len (1024 * i + 64 * n) (hfC D K ctr flags len)) tb bb (hfB D K ctr flags i n)) ?_ ?_
            · refine CW.cond (b := decide (n = 15)) rfl (fun h => ?_) (fun h => ?_)
              · refine CW.region ?_
                refine LW.val rfl rfl (r_move) ?_
                refine LW.val rfl rfl (r_or rfl rfl) ?_
                refine LW.val rfl rfl (r_assign) ?_
                refine LW.nil ⟨⟨rfl, rfl, rfl, rfl, rfl, rfl, rfl, rfl, rfl, rfl, congrArg (Value.int .u32) (if_pos (of_decide_eq_true h)).symm, rfl, rfl, trivial⟩, ⟨⟨hM, hO1, hC1, cT, hT1⟩, hwb, hTB', hbl, hB1⟩⟩
              · exact CW.skip ⟨⟨rfl, rfl, rfl, rfl, rfl, rfl, rfl, rfl, rfl, rfl, congrArg (Value.int .u32) (if_neg (of_decide_eq_false h)).symm, rfl, rfl, trivial⟩, ⟨⟨hM, hO1, hC1, cT, hT1⟩, hwb, hTB', hbl, hB1⟩⟩
            clear hM hO1 hC1 cT hT1 hwb hTB' hbl hB1 J w1
            rintro J w1 ⟨⟨hM, hO1, hC1, cT, hT1⟩, hwb, hTB', hbl, hB1⟩
            first | refine CW.seq (CW.region ?_) | refine CW.seq (CW.seq (CW.region ?_))
            have e1 : IntKind.u64.wrap (64 * ((n : Nat) : Int)) = ((64 * n : Nat) : Int) := wN (by omega) (by omega)
            refine LW.val rfl rfl (r_move) ?_
            refine LW.val rfl rfl (r_move) ?_
            refine LW.val rfl rfl (r_mulE rfl rfl e1) ?_
            refine LW.val rfl rfl (r_addE rfl rfl (wN (m := 1024 * i + 64 * n) (by omega) (by omega))) ?_
            refine LW.val rfl rfl (r_move) ?_
            refine LW.val rfl rfl (r_geqE rfl rfl (q := decide (len ≤ 1024 * i + 64 * n)) (decide_eq_decide.2 (by omega))) ?_
            refine LW.nil ?_
            by_cases hbr : len ≤ 1024 * i + 64 * n
            · first | refine CW.seq (CW.cond_t (congrArg Value.bool (decide_eq_true hbr)) (CW.exit (Or.inr ⟨by decide, Or.inl ⟨rfl, ?_⟩⟩))) | refine CW.cond_t (congrArg Value.bool (decide_eq_true hbr)) (CW.exit (Or.inr ⟨by decide, Or.inl ⟨rfl, ?_⟩⟩))
              exact ⟨⟨rfl, rfl, rfl, rfl, rfl, rfl, rfl, rfl, rfl, rfl, trivial⟩, ⟨⟨hM, hO1, by rw [hfCh_ge (by omega)]; rw [hfCh_ge (by omega)] at hC1; exact hC1, cT, hT1⟩, hwb, hTB', hbl, by rw [hfG, hfCnt_eq (n := n) hlt hn16 hnl (by omega)]; exact hB1⟩⟩
            first | refine CW.seq (CW.cond_f (congrArg Value.bool (decide_eq_false hbr)) (CW.skip ?_)) | refine CW.cond_f (congrArg Value.bool (decide_eq_false hbr)) (CW.skip ?_)
            have hnl : 1024 * i + 64 * n < len := by omega
            first | refine CW.seq (CW.region ?_) | refine CW.seq (CW.seq (CW.region ?_))
            refine LW.val rfl rfl (r_move) ?_
            refine LW.val rfl rfl (r_addE rfl rfl (wN (m := 1024 * i + 64) (by omega) (by omega))) ?_
            refine LW.val rfl rfl (r_move) ?_
            refine LW.val rfl rfl (r_mulE rfl rfl e1) ?_
            refine LW.val rfl rfl (r_addE rfl rfl (wN (m := 1024 * i + 64 + 64 * n) (by omega) (by omega))) ?_
            refine LW.val rfl rfl (r_move) ?_
            refine LW.val rfl rfl (r_geqE rfl rfl (q := decide (len ≤ 1024 * i + 64 + 64 * n)) (decide_eq_decide.2 (by omega))) ?_
            refine LW.nil ?_
            rw [hfCh_lt hnl] at hC1
            refine CW.cut [(0, .pointer (some ⟨ib, io, none⟩)), (1, .int .u64 ((len : Nat) : Int)), (2, .int .u64 ((ctr + i : Nat) : Int)), (3, .int .u32 flags), (4, .pointer (some ⟨kb, ko, none⟩)), (5, .pointer (some ⟨ob, oo, none⟩)), (6, .pointer (some ⟨cb, co, none⟩)), (14, .pointer (some ⟨tb, 0, none⟩)), (15, .int .u64 ((i : Nat) : Int)), (16, .pointer (some ⟨bb, 0, none⟩)), (17, .int .u32 (hfFl flags n)), (18, .int .u64 ((1024 * i : Nat) : Int)), (19, .int .u64 ((n : Nat) : Int))] (hfPsi w ob no to (hpC cO oo i (hfG D K ctr flags len)) cb nc tc (hfCh cC co len (1024 * i + 64 * (n + 1)) (hfC D K ctr flags len)) tb bb (hfB D K ctr flags i n)) ?_ ?_
            · refine CW.cond (b := decide (len ≤ 1024 * i + 64 + 64 * n)) rfl (fun h => ?_) (fun h => ?_)
              · have h := of_decide_eq_true h
                refine CW.region ?_
                refine LW.val rfl rfl (r_move) ?_
                refine LW.val rfl rfl (r_loadA (m := 8) (f := fun j => .int .u32 (hfB D K ctr flags i n j)) rfl agg44 (fun j hj => by rw [hB1.cell (by omega), Nat.zero_add])) ?_
                refine LW.val rfl rfl (r_nil rfl) ?_
                refine LW.eff rfl rfl (r_storeA (m := 8) (f := fun j => .int .u32 (hfB D K ctr flags i n j)) rfl rfl agg44 (fun _ _ => rfl) hC1 hc) ?_
                have hMP := Mod.putC w1 cb co 8 (fun j => .int .u32 (hfB D K ctr flags i n j))
                have hCX : hfC D K ctr flags len = hfB D K ctr flags i n := by unfold hfC; rw [show (len - 1) / 64 / 16 = i by omega, show (len - 1) / 64 % 16 = n by omega]
                refine LW.nil ⟨⟨rfl, rfl, rfl, rfl, rfl, rfl, rfl, rfl, rfl, rfl, rfl, rfl, rfl, trivial⟩, ⟨⟨hM.old hMP (by simp), hMP.blk hO1 (by simpa using hoc), by rw [hfCh_ge (by omega), hCX]; exact hC1.putC hc, cT, hMP.blk hT1 (by simpa using Ne.symm hCT)⟩, hwb, hTB', Nat.lt_of_lt_of_le hbl hMP.size, hMP.blk hB1 (by simpa using Ne.symm hCB)⟩⟩
              · have h := of_decide_eq_false h
                exact CW.skip ⟨⟨rfl, rfl, rfl, rfl, rfl, rfl, rfl, rfl, rfl, rfl, rfl, rfl, rfl, trivial⟩, ⟨⟨hM, hO1, by rw [hfCh_lt (by omega)]; exact hC1, cT, hT1⟩, hwb, hTB', hbl, hB1⟩⟩
            clear hM hO1 hC1 cT hT1 hwb hTB' hbl hB1 J w1
            rintro J w1 ⟨⟨hM, hO1, hC1, cT, hT1⟩, hwb, hTB', hbl, hB1⟩
            first | refine CW.seq (CW.region ?_) | refine CW.seq (CW.seq (CW.region ?_))
            refine LW.val rfl rfl (r_assign) ?_
            refine LW.nil ?_
            first | refine CW.seq (CW.region ?_) | refine CW.seq (CW.seq (CW.region ?_))
            refine LW.val rfl rfl (r_alloc zeroF57) ?_
            refine LW.nil ?_
            have hMA := Mod.alloc w1 (.cells (Array.ofFn (n := 16) fun i => (fun _ => Value.int .u32 0) i.val) 57)
            have hN1 := Blk.new w1 16 (fun _ => Value.int .u32 0) 57
            obtain ⟨nb, hnb⟩ : ∃ nb, nb = w1.heap.size := ⟨_, rfl⟩
            rw [← hnb] at hN1 ⊢
            have hON : ob ≠ nb := hO1.ne (by omega)
            have hCN : cb ≠ nb := hC1.ne (by omega)
            have hTN : tb ≠ nb := hT1.ne (by omega)
            have hBN : bb ≠ nb := hB1.ne (by omega)
            have hwn : w.heap.size ≤ nb := by have := hM.size; omega
            first | refine CW.seq (CW.region ?_) | refine CW.seq (CW.seq (CW.region ?_))
            refine LW.val rfl rfl (r_move) ?_
            refine LW.val rfl rfl (r_nil rfl) ?_
            refine LW.val rfl rfl (r_move) ?_
            refine LW.val rfl rfl (r_mulE rfl rfl (wN (m := 1024 * i) (by omega) (by omega))) ?_
            refine LW.val rfl rfl (r_move) ?_
            refine LW.val rfl rfl (r_mulE rfl rfl e1) ?_
            refine LW.val rfl rfl (r_addE rfl rfl (wN (m := 1024 * i + 64 * n) (by omega) (by omega))) ?_
            refine LW.val rfl rfl (s17 (io := io) (ib := ib) (m := 1024 * i + 64 * n) rfl rfl arr52 (by omega)) ?_
            refine LW.val rfl rfl (r_s2a rfl Tryd.underlying72 (by omega)) ?_
            refine LW.call rfl rfl (e_call en28) ?_
            refine (b2w_any ib (io + (1024 * i + 64 * n)) nb 0 16 (fun _ => .int .u32 0) 57 (fun j => D (1024 * i + 64 * n + j)) _ (fun j hj => by rw [Nat.add_assoc io]; exact (hM.none hMA).rd hD (by simp [hio, hic]) (1024 * i + 64 * n + j) (by omega)) (hD.ne (by decide) hwn) hN1 (by decide)).mono ?_
            rintro e w2 ⟨rfl, hM2, hN2⟩
            refine ⟨_, rfl, ?_⟩
            refine LW.nil ?_
            first | refine CW.seq (CW.region ?_) | refine CW.seq (CW.seq (CW.region ?_))
            refine LW.val rfl rfl (r_assign) ?_
            refine LW.nil ?_
            refine CW.fresh [(0, .pointer (some ⟨ib, io, none⟩)), (1, .int .u64 ((len : Nat) : Int)), (2, .int .u64 ((ctr + i : Nat) : Int)), (3, .int .u32 flags), (4, .pointer (some ⟨kb, ko, none⟩)), (5, .pointer (some ⟨ob, oo, none⟩)), (6, .pointer (some ⟨cb, co, none⟩)), (14, .pointer (some ⟨tb, 0, none⟩)), (15, .int .u64 ((i : Nat) : Int)), (16, .pointer (some ⟨bb, 0, none⟩)), (17, .int .u32 (hfFl flags n)), (18, .int .u64 ((1024 * i : Nat) : Int)), (19, .int .u64 ((n : Nat) : Int)), (20, .pointer (some ⟨nb, 0, none⟩))] ⟨rfl, rfl, rfl, rfl, rfl, rfl, rfl, rfl, rfl, rfl, rfl, rfl, rfl, rfl, trivial⟩ (φ := fun w4 => hfPsi w ob no to (hpC cO oo i (hfG D K ctr flags len)) cb nc tc (hfCh cC co len (1024 * i + 64 * (n + 1)) (hfC D K ctr flags len)) tb bb (hfB D K ctr flags i n) w4 ∧ Blk w4 nb 16 (put (fun _ => .int .u32 0) 0 16 (fun k => .int .u32 (b2w (fun j => D (1024 * i + 64 * n + j)) k))) 57) ⟨⟨⟨((hM.none hMA).fresh hM2 hwn), hM2.blk (hMA.blk hO1 (by simp)) (by simpa using hON), hM2.blk (hMA.blk hC1 (by simp)) (by simpa using hCN), cT, hM2.blk (hMA.blk hT1 (by simp)) (by simpa using hTN)⟩, hwb, hTB', Nat.lt_of_lt_of_le hbl (Nat.le_trans hMA.size hM2.size), hM2.blk (hMA.blk hB1 (by simp)) (by simpa using hBN)⟩, hN2⟩ ?_
            clear hM hO1 hC1 cT hT1 hwb hTB' hbl hB1 J hMA hN1 hM2 hN2 w2 hnb
            rintro J w2 ⟨⟨⟨hM, hO1, hC1, cT, hT1⟩, hwb, hTB', hbl, hB1⟩, hN1⟩
            first | refine CW.seq (CW.region ?_) | refine CW.seq (CW.seq (CW.region ?_))
            refine LW.val rfl rfl (r_move) ?_
            refine LW.val rfl rfl (r_move) ?_
            refine LW.val rfl rfl (r_move) ?_
            refine LW.call rfl rfl (e_call en38) ?_
            refine (comp38_any bb 0 nb 0 tb 0 16 cT 57 (hfB D K ctr flags i n) (b2w fun j => D (1024 * i + 64 * n + j)) ((ctr + i : Nat) : Int) 64 (hfFl flags n) w2 (hB1.rd (by decide) (fun j _ => by rw [Nat.zero_add])) (hN1.rd (by decide) (fun j hj => put_at _ _ hj)) hT1 (by decide) (Or.inl hTB') (Or.inl (Ne.symm hTN))).mono ?_
            rintro e w3 ⟨rfl, hM3, hT3⟩
            refine ⟨_, rfl, ?_⟩
            refine LW.nil ?_
            have hMt : w.heap.size ≤ tb := by omega
            first | refine CW.seq (CW.region ?_) | refine CW.seq (CW.seq (CW.region ?_))
            have hB3 := hM3.blk hB1 (by simpa using hTB')
            refine LW.val rfl rfl (r_arr_all rfl arr57) ?_
            refine LW.val rfl rfl (r_s2a rfl Tryd.underlying44 (by omega)) ?_
            refine LW.val rfl rfl (r_loadA (m := 8) (f := fun j => .int .u32 (hfB D K ctr flags i (n + 1) j)) rfl agg44 (fun j hj => by rw [hT3.cell (by omega), put_at _ _ (by omega)]; rfl)) ?_
            refine LW.eff rfl rfl (r_storeA (m := 8) (f := fun j => .int .u32 (hfB D K ctr flags i (n + 1) j)) rfl rfl agg44 (fun _ _ => rfl) hB3 (by decide)) ?_
            refine LW.nil ?_
            have hMP := Mod.putC w3 bb 0 8 (fun j => .int .u32 (hfB D K ctr flags i (n + 1) j))
            have hB4 := hB3.putC (o := 0) (m := 8) (f := fun j => .int .u32 (hfB D K ctr flags i (n + 1) j)) (by decide)
            refine CW.region ?_
            refine LW.val rfl rfl (r_move) ?_
            refine LW.val rfl rfl (r_assign) ?_
            refine LW.nil ?_
            refine CW.region ?_
            refine LW.val rfl rfl (r_move) ?_
            refine LW.val rfl rfl (r_addE rfl rfl (wN (m := n + 1) (by omega) (by omega))) ?_
            refine LW.val rfl rfl (r_assign) ?_
            exact LW.nil ⟨q2 - 1, by omega, n + 1, _, by omega, by omega, Or.inr (by simpa using hnl), (tab_of_agrees (α := Value) _ [(0, .pointer (some ⟨ib, io, none⟩)), (1, .int .u64 ((len : Nat) : Int)), (2, .int .u64 ((ctr + i : Nat) : Int)), (3, .int .u32 flags), (4, .pointer (some ⟨kb, ko, none⟩)), (5, .pointer (some ⟨ob, oo, none⟩)), (6, .pointer (some ⟨cb, co, none⟩)), (14, .pointer (some ⟨tb, 0, none⟩)), (15, .int .u64 ((i : Nat) : Int)), (16, .pointer (some ⟨bb, 0, none⟩)), (17, .int .u32 (hfBF flags (n + 1))), (18, .int .u64 ((1024 * i : Nat) : Int)), (19, .int .u64 (((n + 1) : Nat) : Int))] ⟨rfl, rfl, rfl, rfl, rfl, rfl, rfl, rfl, rfl, rfl, rfl, rfl, rfl, trivial⟩).symm, ⟨⟨(hM.fresh hM3 hMt).fresh hMP hwb, hMP.blk (hM3.blk hO1 (by simpa using hOT)) (by simpa using hOB), hMP.blk (hM3.blk hC1 (by simpa using hCT)) (by simpa using hCB), _, hMP.blk hT3 (by simpa using Ne.symm hTB')⟩, hwb, hTB', hB4.lt, hB4.congr fun j hj => by rw [put_in _ _ (by omega)]; rfl⟩⟩
          · first | refine CW.seq (CW.region ?_) | refine CW.seq (CW.seq (CW.region ?_))
            refine LW.val rfl rfl (r_move) ?_
            refine LW.val rfl rfl (r_lssE rfl rfl (q := false) (decide_eq_false (by omega))) ?_
            refine LW.nil ?_
            first | refine CW.seq (CW.cond_f rfl (CW.exit (Or.inl ⟨rfl, ?_⟩))) | refine CW.cond_f rfl (CW.exit (Or.inl ⟨rfl, ?_⟩))
            rw [show 1024 * i + 64 * n = 1024 * (i + 1) by omega] at hC1
            exact ⟨⟨rfl, rfl, rfl, rfl, rfl, rfl, rfl, rfl, rfl, rfl, trivial⟩, ⟨⟨hM, hO1, hC1, cT, hT1⟩, hwb, hTB', hbl, by rw [hfG, hfCnt_eq (n := n) hlt hn16 hnl (by omega)]; exact hB1⟩⟩
      · clear hPs hbb hOB hCB hTB hwb J w'
        rintro J w0 ⟨⟨hM, hO, hC1, cT, hT1⟩, hwb, hTB', hbl, hB1⟩
        have hO0 : Blk w0 ob no (stw (hpC cO oo i (hfG D K ctr flags len)) oo i 0 (fun j => .int .u32 (hfG D K ctr flags len i j))) to := by rw [stw_zero]; exact hO
        clear hO
        have hOB : ob ≠ bb := by omega
        have hS : w0.drew.cell? ⟨bb, 0 + 0, none⟩ = some (.int .u32 (hfG D K ctr flags len i 0)) := hB1.cell (by decide)
        refine CW.seq (CW.drawn (fun w => w.cell? ⟨bb, 0 + 0, none⟩ = some (.int .u32 (hfG D K ctr flags len i 0))) [(0, true), (1, true), (2, true), (3, true), (4, true), (5, true), (6, true), (7, false)] mixed (by kernel_rfl) (by kernel_rfl) ?_)
        refine OW.val hS rfl rfl rfl (fun _ _ => r_move) ?_
        refine OW.val hS rfl rfl rfl (fun _ _ => r_move) ?_
        refine OW.val hS rfl rfl rfl (fun _ _ => r_addE rfl rfl (wN (m := 0 + i) (by omega) (by omega))) ?_
        refine OW.val hS rfl rfl rfl (fun _ _ => r_index_arr rfl rfl arr44 (by decide) (by decide)) ?_
        refine OW.val hS rfl rfl rfl (fun _ hS => r_load rfl one43 hS) ?_
        refine OW.val hS rfl rfl rfl (fun _ _ => r_nil rfl) ?_
        refine OW.val hS rfl rfl rfl (fun _ _ => r_ix rfl rfl arr47 (by omega)) ?_
        refine OW.eff rfl rfl rfl (r_storeB rfl rfl one43 rfl hO0.drew (by omega)) ((Mod.set w0.drew ob (oo + (8 * 0 + i)) (.int .u32 (hfG D K ctr flags len i 0))).cell hS (by simpa using Ne.symm hOB)) ?_
        refine OW.nil (CW.fresh [(0, .pointer (some ⟨ib, io, none⟩)), (1, .int .u64 ((len : Nat) : Int)), (2, .int .u64 ((ctr + i : Nat) : Int)), (3, .int .u32 flags), (4, .pointer (some ⟨kb, ko, none⟩)), (5, .pointer (some ⟨ob, oo, none⟩)), (6, .pointer (some ⟨cb, co, none⟩)), (14, .pointer (some ⟨tb, 0, none⟩)), (15, .int .u64 ((i : Nat) : Int)), (16, .pointer (some ⟨bb, 0, none⟩))] ⟨rfl, rfl, rfl, rfl, rfl, rfl, rfl, rfl, rfl, rfl, trivial⟩ (φ := fun w' => hfPhi w ob no to (stw (hpC cO oo i (hfG D K ctr flags len)) oo i 1 (fun j => .int .u32 (hfG D K ctr flags len i j))) cb nc tc (hfCh cC co len (1024 * (i + 1)) (hfC D K ctr flags len)) tb w' ∧ Blk w' bb 8 (fun j => .int .u32 (hfG D K ctr flags len i j)) 44) ⟨⟨(hM.drewR.old (Mod.set _ ob _ _) (by simp)), (congrArg (fun c => Blk _ ob no c to) (stw_snoc (hpC cO oo i (hfG D K ctr flags len)) oo i 0 (fun j => .int .u32 (hfG D K ctr flags len i j)) (.int .u32 (hfG D K ctr flags len i 0)) rfl)).mp (hO0.drew.set (i := oo + (8 * 0 + i)) (.int .u32 (hfG D K ctr flags len i 0)) (by omega)), ((Mod.set _ ob _ _).blk hC1.drew (by simpa using Ne.symm hoc)), cT, ((Mod.set _ ob _ _).blk hT1.drew (by simpa using Ne.symm hOT))⟩, ((Mod.set _ ob _ _).blk hB1.drew (by simpa using Ne.symm hOB))⟩ ?_)
        clear hM hO0 hC1 cT hT1 hB1 hS w0 J hbl
        rintro J w0 ⟨⟨hM, hO1, hC1, cT, hT1⟩, hB1⟩
        have hS : w0.drew.cell? ⟨bb, 0 + 1, none⟩ = some (.int .u32 (hfG D K ctr flags len i 1)) := hB1.cell (by decide)
        refine CW.seq (CW.drawn (fun w => w.cell? ⟨bb, 0 + 1, none⟩ = some (.int .u32 (hfG D K ctr flags len i 1))) [(0, true), (1, true), (2, true), (3, true), (4, true), (5, true), (6, true), (7, false)] mixed (by kernel_rfl) (by kernel_rfl) ?_)
        refine OW.val hS rfl rfl rfl (fun _ _ => r_move) ?_
        refine OW.val hS rfl rfl rfl (fun _ _ => r_move) ?_
        refine OW.val hS rfl rfl rfl (fun _ _ => r_addE rfl rfl (wN (m := 8 + i) (by omega) (by omega))) ?_
        refine OW.val hS rfl rfl rfl (fun _ _ => r_index_arr rfl rfl arr44 (by decide) (by decide)) ?_
        refine OW.val hS rfl rfl rfl (fun _ hS => r_load rfl one43 hS) ?_
        refine OW.val hS rfl rfl rfl (fun _ _ => r_nil rfl) ?_
        refine OW.val hS rfl rfl rfl (fun _ _ => r_ix rfl rfl arr47 (by omega)) ?_
        refine OW.eff rfl rfl rfl (r_storeB rfl rfl one43 rfl hO1.drew (by omega)) ((Mod.set w0.drew ob (oo + (8 * 1 + i)) (.int .u32 (hfG D K ctr flags len i 1))).cell hS (by simpa using Ne.symm hOB)) ?_
        refine OW.nil (CW.fresh [(0, .pointer (some ⟨ib, io, none⟩)), (1, .int .u64 ((len : Nat) : Int)), (2, .int .u64 ((ctr + i : Nat) : Int)), (3, .int .u32 flags), (4, .pointer (some ⟨kb, ko, none⟩)), (5, .pointer (some ⟨ob, oo, none⟩)), (6, .pointer (some ⟨cb, co, none⟩)), (14, .pointer (some ⟨tb, 0, none⟩)), (15, .int .u64 ((i : Nat) : Int)), (16, .pointer (some ⟨bb, 0, none⟩))] ⟨rfl, rfl, rfl, rfl, rfl, rfl, rfl, rfl, rfl, rfl, trivial⟩ (φ := fun w' => hfPhi w ob no to (stw (hpC cO oo i (hfG D K ctr flags len)) oo i 2 (fun j => .int .u32 (hfG D K ctr flags len i j))) cb nc tc (hfCh cC co len (1024 * (i + 1)) (hfC D K ctr flags len)) tb w' ∧ Blk w' bb 8 (fun j => .int .u32 (hfG D K ctr flags len i j)) 44) ⟨⟨(hM.drewR.old (Mod.set _ ob _ _) (by simp)), (congrArg (fun c => Blk _ ob no c to) (stw_snoc (hpC cO oo i (hfG D K ctr flags len)) oo i 1 (fun j => .int .u32 (hfG D K ctr flags len i j)) (.int .u32 (hfG D K ctr flags len i 1)) rfl)).mp (hO1.drew.set (i := oo + (8 * 1 + i)) (.int .u32 (hfG D K ctr flags len i 1)) (by omega)), ((Mod.set _ ob _ _).blk hC1.drew (by simpa using Ne.symm hoc)), cT, ((Mod.set _ ob _ _).blk hT1.drew (by simpa using Ne.symm hOT))⟩, ((Mod.set _ ob _ _).blk hB1.drew (by simpa using Ne.symm hOB))⟩ ?_)
        clear hM hO1 hC1 cT hT1 hB1 hS w0 J
        rintro J w0 ⟨⟨hM, hO2, hC1, cT, hT1⟩, hB1⟩
        have hS : w0.drew.cell? ⟨bb, 0 + 2, none⟩ = some (.int .u32 (hfG D K ctr flags len i 2)) := hB1.cell (by decide)
        refine CW.seq (CW.drawn (fun w => w.cell? ⟨bb, 0 + 2, none⟩ = some (.int .u32 (hfG D K ctr flags len i 2))) [(0, true), (1, true), (2, true), (3, true), (4, true), (5, true), (6, true), (7, false)] mixed (by kernel_rfl) (by kernel_rfl) ?_)
        refine OW.val hS rfl rfl rfl (fun _ _ => r_move) ?_
        refine OW.val hS rfl rfl rfl (fun _ _ => r_move) ?_
        refine OW.val hS rfl rfl rfl (fun _ _ => r_addE rfl rfl (wN (m := 16 + i) (by omega) (by omega))) ?_
        refine OW.val hS rfl rfl rfl (fun _ _ => r_index_arr rfl rfl arr44 (by decide) (by decide)) ?_
        refine OW.val hS rfl rfl rfl (fun _ hS => r_load rfl one43 hS) ?_
        refine OW.val hS rfl rfl rfl (fun _ _ => r_nil rfl) ?_
        refine OW.val hS rfl rfl rfl (fun _ _ => r_ix rfl rfl arr47 (by omega)) ?_
        refine OW.eff rfl rfl rfl (r_storeB rfl rfl one43 rfl hO2.drew (by omega)) ((Mod.set w0.drew ob (oo + (8 * 2 + i)) (.int .u32 (hfG D K ctr flags len i 2))).cell hS (by simpa using Ne.symm hOB)) ?_
        refine OW.nil (CW.fresh [(0, .pointer (some ⟨ib, io, none⟩)), (1, .int .u64 ((len : Nat) : Int)), (2, .int .u64 ((ctr + i : Nat) : Int)), (3, .int .u32 flags), (4, .pointer (some ⟨kb, ko, none⟩)), (5, .pointer (some ⟨ob, oo, none⟩)), (6, .pointer (some ⟨cb, co, none⟩)), (14, .pointer (some ⟨tb, 0, none⟩)), (15, .int .u64 ((i : Nat) : Int)), (16, .pointer (some ⟨bb, 0, none⟩))] ⟨rfl, rfl, rfl, rfl, rfl, rfl, rfl, rfl, rfl, rfl, trivial⟩ (φ := fun w' => hfPhi w ob no to (stw (hpC cO oo i (hfG D K ctr flags len)) oo i 3 (fun j => .int .u32 (hfG D K ctr flags len i j))) cb nc tc (hfCh cC co len (1024 * (i + 1)) (hfC D K ctr flags len)) tb w' ∧ Blk w' bb 8 (fun j => .int .u32 (hfG D K ctr flags len i j)) 44) ⟨⟨(hM.drewR.old (Mod.set _ ob _ _) (by simp)), (congrArg (fun c => Blk _ ob no c to) (stw_snoc (hpC cO oo i (hfG D K ctr flags len)) oo i 2 (fun j => .int .u32 (hfG D K ctr flags len i j)) (.int .u32 (hfG D K ctr flags len i 2)) rfl)).mp (hO2.drew.set (i := oo + (8 * 2 + i)) (.int .u32 (hfG D K ctr flags len i 2)) (by omega)), ((Mod.set _ ob _ _).blk hC1.drew (by simpa using Ne.symm hoc)), cT, ((Mod.set _ ob _ _).blk hT1.drew (by simpa using Ne.symm hOT))⟩, ((Mod.set _ ob _ _).blk hB1.drew (by simpa using Ne.symm hOB))⟩ ?_)
        clear hM hO2 hC1 cT hT1 hB1 hS w0 J
        rintro J w0 ⟨⟨hM, hO3, hC1, cT, hT1⟩, hB1⟩
        have hS : w0.drew.cell? ⟨bb, 0 + 3, none⟩ = some (.int .u32 (hfG D K ctr flags len i 3)) := hB1.cell (by decide)
        refine CW.seq (CW.drawn (fun w => w.cell? ⟨bb, 0 + 3, none⟩ = some (.int .u32 (hfG D K ctr flags len i 3))) [(0, true), (1, true), (2, true), (3, true), (4, true), (5, true), (6, true), (7, false)] mixed (by kernel_rfl) (by kernel_rfl) ?_)
        refine OW.val hS rfl rfl rfl (fun _ _ => r_move) ?_
        refine OW.val hS rfl rfl rfl (fun _ _ => r_move) ?_
        refine OW.val hS rfl rfl rfl (fun _ _ => r_addE rfl rfl (wN (m := 24 + i) (by omega) (by omega))) ?_
        refine OW.val hS rfl rfl rfl (fun _ _ => r_index_arr rfl rfl arr44 (by decide) (by decide)) ?_
        refine OW.val hS rfl rfl rfl (fun _ hS => r_load rfl one43 hS) ?_
        refine OW.val hS rfl rfl rfl (fun _ _ => r_nil rfl) ?_
        refine OW.val hS rfl rfl rfl (fun _ _ => r_ix rfl rfl arr47 (by omega)) ?_
        refine OW.eff rfl rfl rfl (r_storeB rfl rfl one43 rfl hO3.drew (by omega)) ((Mod.set w0.drew ob (oo + (8 * 3 + i)) (.int .u32 (hfG D K ctr flags len i 3))).cell hS (by simpa using Ne.symm hOB)) ?_
        refine OW.nil (CW.fresh [(0, .pointer (some ⟨ib, io, none⟩)), (1, .int .u64 ((len : Nat) : Int)), (2, .int .u64 ((ctr + i : Nat) : Int)), (3, .int .u32 flags), (4, .pointer (some ⟨kb, ko, none⟩)), (5, .pointer (some ⟨ob, oo, none⟩)), (6, .pointer (some ⟨cb, co, none⟩)), (14, .pointer (some ⟨tb, 0, none⟩)), (15, .int .u64 ((i : Nat) : Int)), (16, .pointer (some ⟨bb, 0, none⟩))] ⟨rfl, rfl, rfl, rfl, rfl, rfl, rfl, rfl, rfl, rfl, trivial⟩ (φ := fun w' => hfPhi w ob no to (stw (hpC cO oo i (hfG D K ctr flags len)) oo i 4 (fun j => .int .u32 (hfG D K ctr flags len i j))) cb nc tc (hfCh cC co len (1024 * (i + 1)) (hfC D K ctr flags len)) tb w' ∧ Blk w' bb 8 (fun j => .int .u32 (hfG D K ctr flags len i j)) 44) ⟨⟨(hM.drewR.old (Mod.set _ ob _ _) (by simp)), (congrArg (fun c => Blk _ ob no c to) (stw_snoc (hpC cO oo i (hfG D K ctr flags len)) oo i 3 (fun j => .int .u32 (hfG D K ctr flags len i j)) (.int .u32 (hfG D K ctr flags len i 3)) rfl)).mp (hO3.drew.set (i := oo + (8 * 3 + i)) (.int .u32 (hfG D K ctr flags len i 3)) (by omega)), ((Mod.set _ ob _ _).blk hC1.drew (by simpa using Ne.symm hoc)), cT, ((Mod.set _ ob _ _).blk hT1.drew (by simpa using Ne.symm hOT))⟩, ((Mod.set _ ob _ _).blk hB1.drew (by simpa using Ne.symm hOB))⟩ ?_)
        clear hM hO3 hC1 cT hT1 hB1 hS w0 J
        rintro J w0 ⟨⟨hM, hO4, hC1, cT, hT1⟩, hB1⟩
        have hS : w0.drew.cell? ⟨bb, 0 + 4, none⟩ = some (.int .u32 (hfG D K ctr flags len i 4)) := hB1.cell (by decide)
        refine CW.seq (CW.drawn (fun w => w.cell? ⟨bb, 0 + 4, none⟩ = some (.int .u32 (hfG D K ctr flags len i 4))) [(0, true), (1, true), (2, true), (3, true), (4, true), (5, true), (6, true), (7, false)] mixed (by kernel_rfl) (by kernel_rfl) ?_)
        refine OW.val hS rfl rfl rfl (fun _ _ => r_move) ?_
        refine OW.val hS rfl rfl rfl (fun _ _ => r_move) ?_
        refine OW.val hS rfl rfl rfl (fun _ _ => r_addE rfl rfl (wN (m := 32 + i) (by omega) (by omega))) ?_
        refine OW.val hS rfl rfl rfl (fun _ _ => r_index_arr rfl rfl arr44 (by decide) (by decide)) ?_
        refine OW.val hS rfl rfl rfl (fun _ hS => r_load rfl one43 hS) ?_
        refine OW.val hS rfl rfl rfl (fun _ _ => r_nil rfl) ?_
        refine OW.val hS rfl rfl rfl (fun _ _ => r_ix rfl rfl arr47 (by omega)) ?_
        refine OW.eff rfl rfl rfl (r_storeB rfl rfl one43 rfl hO4.drew (by omega)) ((Mod.set w0.drew ob (oo + (8 * 4 + i)) (.int .u32 (hfG D K ctr flags len i 4))).cell hS (by simpa using Ne.symm hOB)) ?_
        refine OW.nil (CW.fresh [(0, .pointer (some ⟨ib, io, none⟩)), (1, .int .u64 ((len : Nat) : Int)), (2, .int .u64 ((ctr + i : Nat) : Int)), (3, .int .u32 flags), (4, .pointer (some ⟨kb, ko, none⟩)), (5, .pointer (some ⟨ob, oo, none⟩)), (6, .pointer (some ⟨cb, co, none⟩)), (14, .pointer (some ⟨tb, 0, none⟩)), (15, .int .u64 ((i : Nat) : Int)), (16, .pointer (some ⟨bb, 0, none⟩))] ⟨rfl, rfl, rfl, rfl, rfl, rfl, rfl, rfl, rfl, rfl, trivial⟩ (φ := fun w' => hfPhi w ob no to (stw (hpC cO oo i (hfG D K ctr flags len)) oo i 5 (fun j => .int .u32 (hfG D K ctr flags len i j))) cb nc tc (hfCh cC co len (1024 * (i + 1)) (hfC D K ctr flags len)) tb w' ∧ Blk w' bb 8 (fun j => .int .u32 (hfG D K ctr flags len i j)) 44) ⟨⟨(hM.drewR.old (Mod.set _ ob _ _) (by simp)), (congrArg (fun c => Blk _ ob no c to) (stw_snoc (hpC cO oo i (hfG D K ctr flags len)) oo i 4 (fun j => .int .u32 (hfG D K ctr flags len i j)) (.int .u32 (hfG D K ctr flags len i 4)) rfl)).mp (hO4.drew.set (i := oo + (8 * 4 + i)) (.int .u32 (hfG D K ctr flags len i 4)) (by omega)), ((Mod.set _ ob _ _).blk hC1.drew (by simpa using Ne.symm hoc)), cT, ((Mod.set _ ob _ _).blk hT1.drew (by simpa using Ne.symm hOT))⟩, ((Mod.set _ ob _ _).blk hB1.drew (by simpa using Ne.symm hOB))⟩ ?_)
        clear hM hO4 hC1 cT hT1 hB1 hS w0 J
        rintro J w0 ⟨⟨hM, hO5, hC1, cT, hT1⟩, hB1⟩
        have hS : w0.drew.cell? ⟨bb, 0 + 5, none⟩ = some (.int .u32 (hfG D K ctr flags len i 5)) := hB1.cell (by decide)
        refine CW.seq (CW.drawn (fun w => w.cell? ⟨bb, 0 + 5, none⟩ = some (.int .u32 (hfG D K ctr flags len i 5))) [(0, true), (1, true), (2, true), (3, true), (4, true), (5, true), (6, true), (7, false)] mixed (by kernel_rfl) (by kernel_rfl) ?_)
        refine OW.val hS rfl rfl rfl (fun _ _ => r_move) ?_
        refine OW.val hS rfl rfl rfl (fun _ _ => r_move) ?_
        refine OW.val hS rfl rfl rfl (fun _ _ => r_addE rfl rfl (wN (m := 40 + i) (by omega) (by omega))) ?_
        refine OW.val hS rfl rfl rfl (fun _ _ => r_index_arr rfl rfl arr44 (by decide) (by decide)) ?_
        refine OW.val hS rfl rfl rfl (fun _ hS => r_load rfl one43 hS) ?_
        refine OW.val hS rfl rfl rfl (fun _ _ => r_nil rfl) ?_
        refine OW.val hS rfl rfl rfl (fun _ _ => r_ix rfl rfl arr47 (by omega)) ?_
        refine OW.eff rfl rfl rfl (r_storeB rfl rfl one43 rfl hO5.drew (by omega)) ((Mod.set w0.drew ob (oo + (8 * 5 + i)) (.int .u32 (hfG D K ctr flags len i 5))).cell hS (by simpa using Ne.symm hOB)) ?_
        refine OW.nil (CW.fresh [(0, .pointer (some ⟨ib, io, none⟩)), (1, .int .u64 ((len : Nat) : Int)), (2, .int .u64 ((ctr + i : Nat) : Int)), (3, .int .u32 flags), (4, .pointer (some ⟨kb, ko, none⟩)), (5, .pointer (some ⟨ob, oo, none⟩)), (6, .pointer (some ⟨cb, co, none⟩)), (14, .pointer (some ⟨tb, 0, none⟩)), (15, .int .u64 ((i : Nat) : Int)), (16, .pointer (some ⟨bb, 0, none⟩))] ⟨rfl, rfl, rfl, rfl, rfl, rfl, rfl, rfl, rfl, rfl, trivial⟩ (φ := fun w' => hfPhi w ob no to (stw (hpC cO oo i (hfG D K ctr flags len)) oo i 6 (fun j => .int .u32 (hfG D K ctr flags len i j))) cb nc tc (hfCh cC co len (1024 * (i + 1)) (hfC D K ctr flags len)) tb w' ∧ Blk w' bb 8 (fun j => .int .u32 (hfG D K ctr flags len i j)) 44) ⟨⟨(hM.drewR.old (Mod.set _ ob _ _) (by simp)), (congrArg (fun c => Blk _ ob no c to) (stw_snoc (hpC cO oo i (hfG D K ctr flags len)) oo i 5 (fun j => .int .u32 (hfG D K ctr flags len i j)) (.int .u32 (hfG D K ctr flags len i 5)) rfl)).mp (hO5.drew.set (i := oo + (8 * 5 + i)) (.int .u32 (hfG D K ctr flags len i 5)) (by omega)), ((Mod.set _ ob _ _).blk hC1.drew (by simpa using Ne.symm hoc)), cT, ((Mod.set _ ob _ _).blk hT1.drew (by simpa using Ne.symm hOT))⟩, ((Mod.set _ ob _ _).blk hB1.drew (by simpa using Ne.symm hOB))⟩ ?_)
        clear hM hO5 hC1 cT hT1 hB1 hS w0 J
        rintro J w0 ⟨⟨hM, hO6, hC1, cT, hT1⟩, hB1⟩
        have hS : w0.drew.cell? ⟨bb, 0 + 6, none⟩ = some (.int .u32 (hfG D K ctr flags len i 6)) := hB1.cell (by decide)
        refine CW.seq (CW.drawn (fun w => w.cell? ⟨bb, 0 + 6, none⟩ = some (.int .u32 (hfG D K ctr flags len i 6))) [(0, true), (1, true), (2, true), (3, true), (4, true), (5, true), (6, true), (7, false)] mixed (by kernel_rfl) (by kernel_rfl) ?_)
        refine OW.val hS rfl rfl rfl (fun _ _ => r_move) ?_
        refine OW.val hS rfl rfl rfl (fun _ _ => r_move) ?_
        refine OW.val hS rfl rfl rfl (fun _ _ => r_addE rfl rfl (wN (m := 48 + i) (by omega) (by omega))) ?_
        refine OW.val hS rfl rfl rfl (fun _ _ => r_index_arr rfl rfl arr44 (by decide) (by decide)) ?_
        refine OW.val hS rfl rfl rfl (fun _ hS => r_load rfl one43 hS) ?_
        refine OW.val hS rfl rfl rfl (fun _ _ => r_nil rfl) ?_
        refine OW.val hS rfl rfl rfl (fun _ _ => r_ix rfl rfl arr47 (by omega)) ?_
        refine OW.eff rfl rfl rfl (r_storeB rfl rfl one43 rfl hO6.drew (by omega)) ((Mod.set w0.drew ob (oo + (8 * 6 + i)) (.int .u32 (hfG D K ctr flags len i 6))).cell hS (by simpa using Ne.symm hOB)) ?_
        refine OW.nil (CW.fresh [(0, .pointer (some ⟨ib, io, none⟩)), (1, .int .u64 ((len : Nat) : Int)), (2, .int .u64 ((ctr + i : Nat) : Int)), (3, .int .u32 flags), (4, .pointer (some ⟨kb, ko, none⟩)), (5, .pointer (some ⟨ob, oo, none⟩)), (6, .pointer (some ⟨cb, co, none⟩)), (14, .pointer (some ⟨tb, 0, none⟩)), (15, .int .u64 ((i : Nat) : Int)), (16, .pointer (some ⟨bb, 0, none⟩))] ⟨rfl, rfl, rfl, rfl, rfl, rfl, rfl, rfl, rfl, rfl, trivial⟩ (φ := fun w' => hfPhi w ob no to (stw (hpC cO oo i (hfG D K ctr flags len)) oo i 7 (fun j => .int .u32 (hfG D K ctr flags len i j))) cb nc tc (hfCh cC co len (1024 * (i + 1)) (hfC D K ctr flags len)) tb w' ∧ Blk w' bb 8 (fun j => .int .u32 (hfG D K ctr flags len i j)) 44) ⟨⟨(hM.drewR.old (Mod.set _ ob _ _) (by simp)), (congrArg (fun c => Blk _ ob no c to) (stw_snoc (hpC cO oo i (hfG D K ctr flags len)) oo i 6 (fun j => .int .u32 (hfG D K ctr flags len i j)) (.int .u32 (hfG D K ctr flags len i 6)) rfl)).mp (hO6.drew.set (i := oo + (8 * 6 + i)) (.int .u32 (hfG D K ctr flags len i 6)) (by omega)), ((Mod.set _ ob _ _).blk hC1.drew (by simpa using Ne.symm hoc)), cT, ((Mod.set _ ob _ _).blk hT1.drew (by simpa using Ne.symm hOT))⟩, ((Mod.set _ ob _ _).blk hB1.drew (by simpa using Ne.symm hOB))⟩ ?_)
        clear hM hO6 hC1 cT hT1 hB1 hS w0 J
        rintro J w0 ⟨⟨hM, hO7, hC1, cT, hT1⟩, hB1⟩
        have hS : w0.drew.cell? ⟨bb, 0 + 7, none⟩ = some (.int .u32 (hfG D K ctr flags len i 7)) := hB1.cell (by decide)
        refine CW.seq (CW.drawn (fun w => w.cell? ⟨bb, 0 + 7, none⟩ = some (.int .u32 (hfG D K ctr flags len i 7))) [(0, true), (1, true), (2, true), (3, true), (4, true), (5, true), (6, true), (7, false)] mixed (by kernel_rfl) (by kernel_rfl) ?_)
        refine OW.val hS rfl rfl rfl (fun _ _ => r_move) ?_
        refine OW.val hS rfl rfl rfl (fun _ _ => r_move) ?_
        refine OW.val hS rfl rfl rfl (fun _ _ => r_addE rfl rfl (wN (m := 56 + i) (by omega) (by omega))) ?_
        refine OW.val hS rfl rfl rfl (fun _ _ => r_index_arr rfl rfl arr44 (by decide) (by decide)) ?_
        refine OW.val hS rfl rfl rfl (fun _ hS => r_load rfl one43 hS) ?_
        refine OW.val hS rfl rfl rfl (fun _ _ => r_nil rfl) ?_
        refine OW.val hS rfl rfl rfl (fun _ _ => r_ix rfl rfl arr47 (by omega)) ?_
        refine OW.eff rfl rfl rfl (r_storeB rfl rfl one43 rfl hO7.drew (by omega)) ((Mod.set w0.drew ob (oo + (8 * 7 + i)) (.int .u32 (hfG D K ctr flags len i 7))).cell hS (by simpa using Ne.symm hOB)) ?_
        refine OW.nil (CW.fresh [(0, .pointer (some ⟨ib, io, none⟩)), (1, .int .u64 ((len : Nat) : Int)), (2, .int .u64 ((ctr + i : Nat) : Int)), (3, .int .u32 flags), (4, .pointer (some ⟨kb, ko, none⟩)), (5, .pointer (some ⟨ob, oo, none⟩)), (6, .pointer (some ⟨cb, co, none⟩)), (14, .pointer (some ⟨tb, 0, none⟩)), (15, .int .u64 ((i : Nat) : Int)), (16, .pointer (some ⟨bb, 0, none⟩))] ⟨rfl, rfl, rfl, rfl, rfl, rfl, rfl, rfl, rfl, rfl, trivial⟩ (φ := fun w' => hfPhi w ob no to (stw (hpC cO oo i (hfG D K ctr flags len)) oo i 8 (fun j => .int .u32 (hfG D K ctr flags len i j))) cb nc tc (hfCh cC co len (1024 * (i + 1)) (hfC D K ctr flags len)) tb w' ∧ Blk w' bb 8 (fun j => .int .u32 (hfG D K ctr flags len i j)) 44) ⟨⟨(hM.drewR.old (Mod.set _ ob _ _) (by simp)), (congrArg (fun c => Blk _ ob no c to) (stw_snoc (hpC cO oo i (hfG D K ctr flags len)) oo i 7 (fun j => .int .u32 (hfG D K ctr flags len i j)) (.int .u32 (hfG D K ctr flags len i 7)) rfl)).mp (hO7.drew.set (i := oo + (8 * 7 + i)) (.int .u32 (hfG D K ctr flags len i 7)) (by omega)), ((Mod.set _ ob _ _).blk hC1.drew (by simpa using Ne.symm hoc)), cT, ((Mod.set _ ob _ _).blk hT1.drew (by simpa using Ne.symm hOT))⟩, ((Mod.set _ ob _ _).blk hB1.drew (by simpa using Ne.symm hOB))⟩ ?_)
        clear hM hO7 hC1 cT hT1 hB1 hS w0 J
        rintro J w0 ⟨⟨hM, hO8, hC1, cT, hT1⟩, hB1⟩
        rw [hpC_step cO oo i _ hi8] at hO8
        refine CW.region ?_
        refine LW.val rfl rfl (r_move) ?_
        refine LW.val rfl rfl (r_addE rfl rfl (wN (m := ctr + (i + 1)) (by omega) (by omega))) ?_
        refine LW.val rfl rfl (r_assign) ?_
        refine LW.nil ?_
        refine CW.region ?_
        refine LW.val rfl rfl (r_move) ?_
        refine LW.val rfl rfl (r_addE rfl rfl (wN (m := i + 1) (by omega) (by omega))) ?_
        refine LW.val rfl rfl (r_assign) ?_
        exact LW.nil ⟨q - 1, by omega, i + 1, _, by omega, by omega, (tab_of_agrees (α := Value) _ [(0, .pointer (some ⟨ib, io, none⟩)), (1, .int .u64 ((len : Nat) : Int)), (2, .int .u64 ((ctr + (i + 1) : Nat) : Int)), (3, .int .u32 flags), (4, .pointer (some ⟨kb, ko, none⟩)), (5, .pointer (some ⟨ob, oo, none⟩)), (6, .pointer (some ⟨cb, co, none⟩)), (14, .pointer (some ⟨tb, 0, none⟩)), (15, .int .u64 (((i + 1) : Nat) : Int))] ⟨rfl, rfl, rfl, rfl, rfl, rfl, rfl, rfl, rfl, trivial⟩).symm, hM, hO8, hC1, cT, hT1⟩
    · obtain ⟨hM, hO1, hC1, cT, hT1⟩ := hP'
      have hiN : i = hfN len := by unfold hfN; omega
      rw [hfCh_ge (by omega)] at hC1
      rw [hiN] at hO1
      first | refine CW.seq (CW.region ?_) | refine CW.seq (CW.seq (CW.region ?_))
      refine LW.val rfl rfl (r_move) ?_
      refine LW.val rfl rfl (r_mulE rfl rfl (wN (m := 1024 * i) (by omega) (by omega))) ?_
      refine LW.val rfl rfl (r_move) ?_
      refine LW.val rfl rfl (r_lssE rfl rfl (q := false) (decide_eq_false (by omega))) ?_
      refine LW.val rfl rfl (r_move) ?_
      refine LW.pass (gno rfl rfl rfl rfl rfl) rfl ?_
      refine LW.pass (gno rfl rfl rfl rfl rfl) rfl ?_
      refine LW.val rfl rfl (r_pick rfl) ?_
      refine LW.nil ?_
      first | refine CW.seq (CW.cond_f rfl (CW.exit (Or.inl ⟨rfl, ?_⟩))) | refine CW.cond_f rfl (CW.exit (Or.inl ⟨rfl, ?_⟩))
      exact ⟨_, RetV.none rfl, rfl, hM, hO1, hC1⟩
theorem hashf34_any (ib io len ctr kb ko ob oo no cb co nc : Nat) (cO cC : Nat → Value) (to tc : TypeId) (D K : Nat → Int) (flags : Int) (w : World) (hD : Rd w ib io 8192 .u8 D) (hK : Rd w kb ko 8 .u32 K)
    (hio : ib ≠ ob) (hic : ib ≠ cb) (hko : kb ≠ ob) (hkc : kb ≠ cb) (hoc : ob ≠ cb) (hO : Blk w ob no cO to) (ho : oo + 64 ≤ no) (hC : Blk w cb nc cC tc) (hc : co + 8 ≤ nc) (hl0 : 0 < len) (hl : len ≤ 8192) (hctr : ctr < 4611686018427387904) :
    Calls Tryd.prog 34 #[.pointer (some ⟨ib, io, none⟩), .int .u64 ((len : Nat) : Int), .int .u64 ((ctr : Nat) : Int), .int .u32 flags, .pointer (some ⟨kb, ko, none⟩), .pointer (some ⟨ob, oo, none⟩), .pointer (some ⟨cb, co, none⟩)] w fun e w' => e = .returned (.tuple #[]) ∧ Mod [ob, cb] w w' ∧ Blk w' ob no (hpC cO oo (hfN len) (hfG D K ctr flags len)) to ∧ Blk w' cb nc (put cC co 8 (fun j => .int .u32 ((hfC D K ctr flags len) j))) tc := by
  refine calls_of_CW (l := [_, _, _, _, _, _, _]) (N := 22) Tryd.func34 rfl rfl rfl ?_
  refine CW.region ?_
  refine LW.val rfl rfl (r_move) ?_
  refine LW.val rfl rfl (r_move) ?_
  refine LW.val rfl rfl (r_move) ?_
  refine LW.val rfl rfl (r_move) ?_
  refine LW.val rfl rfl (r_move) ?_
  refine LW.val rfl rfl (r_move) ?_
  refine LW.val rfl rfl (r_move) ?_
  refine LW.call rfl rfl (e_call en40) ?_
  refine (hashf_any ib io len ctr kb ko ob oo no cb co nc cO cC to tc D K flags w hD hK hio hic hko hkc hoc hO ho hC hc hl0 hl hctr).mono ?_
  rintro e w' ⟨rfl, hM, hB', hC'⟩
  refine ⟨_, rfl, ?_⟩
  exact LW.nil ⟨_, RetV.none rfl, rfl, hM, hB', hC'⟩
theorem hashf26_any (ib io len ctr kb ko ob oo no cb co nc : Nat) (cO cC : Nat → Value) (to tc : TypeId) (D K : Nat → Int) (flags : Int) (w : World) (hD : Rd w ib io 8192 .u8 D) (hK : Rd w kb ko 8 .u32 K)
    (hio : ib ≠ ob) (hic : ib ≠ cb) (hko : kb ≠ ob) (hkc : kb ≠ cb) (hoc : ob ≠ cb) (hO : Blk w ob no cO to) (ho : oo + 64 ≤ no) (hC : Blk w cb nc cC tc) (hc : co + 8 ≤ nc) (hl0 : 0 < len) (hl : len ≤ 8192) (hctr : ctr < 4611686018427387904) :
    Calls Tryd.prog 26 #[.pointer (some ⟨ib, io, none⟩), .int .u64 ((len : Nat) : Int), .int .u64 ((ctr : Nat) : Int), .int .u32 flags, .pointer (some ⟨kb, ko, none⟩), .pointer (some ⟨ob, oo, none⟩), .pointer (some ⟨cb, co, none⟩)] w fun e w' => e = .returned (.tuple #[]) ∧ Mod [ob, cb] w w' ∧ Blk w' ob no (hpC cO oo (hfN len) (hfG D K ctr flags len)) to ∧ Blk w' cb nc (put cC co 8 (fun j => .int .u32 ((hfC D K ctr flags len) j))) tc := by
  refine calls_of_CW (l := [_, _, _, _, _, _, _]) (N := 22) Tryd.func26 rfl rfl rfl ?_
  refine CW.region ?_
  refine LW.val rfl rfl (r_move) ?_
  refine LW.val rfl rfl (r_move) ?_
  refine LW.val rfl rfl (r_move) ?_
  refine LW.val rfl rfl (r_move) ?_
  refine LW.val rfl rfl (r_move) ?_
  refine LW.val rfl rfl (r_move) ?_
  refine LW.val rfl rfl (r_move) ?_
  refine LW.call rfl rfl (e_call en34) ?_
  refine (hashf34_any ib io len ctr kb ko ob oo no cb co nc cO cC to tc D K flags w hD hK hio hic hko hkc hoc hO ho hC hc hl0 hl hctr).mono ?_
  rintro e w' ⟨rfl, hM, hB', hC'⟩
  refine ⟨_, rfl, ?_⟩
  exact LW.nil ⟨_, RetV.none rfl, rfl, hM, hB', hC'⟩
end Go.Proofs.YtfaopfaghnefdaaDoor
