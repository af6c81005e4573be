/- Rules for walking Go code with the frame told as a function from slots to values: one rule a form of code, one a list of operations, one for a region that draws its order and is walked in an order of ours. Conditions: none; over any program. -/
import Derived.OrdersHeld
import Derived.Tactics
import Derived.Deep.Draws
import Derived.KernelRfl
namespace Go.Proofs.YtfaopfaghnefdaaDoor
open Go

/-- What a slot holds. -/
abbrev Env := Nat → Value
/-- A function turned at one place. -/
def upd {α : Type} (f : Nat → α) (i : Nat) (v : α) : Nat → α := fun j => bif Nat.beq j i then v else f j
theorem upd_same {α : Type} (f : Nat → α) (i : Nat) (v : α) : upd f i v i = v := by simp [upd]
theorem upd_other {α : Type} (f : Nat → α) {i j : Nat} (v : α) (h : j ≠ i) : upd f i v j = f j := by
  have : Nat.beq j i = false := by
    cases hb : Nat.beq j i with
    | false => rfl
    | true => exact absurd (Nat.eq_of_beq_eq_true hb) h
  simp [upd, this]
theorem blt_iff {t N : Nat} : Nat.blt t N = true ↔ t < N := by
  show Nat.ble (t + 1) N = true ↔ _
  rw [Nat.ble_eq]
  omega
/-- A function turned at several places; the first of the list wins. -/
def tab {α : Type} (f : Nat → α) : List (Nat × α) → Nat → α
  | [] => f
  | (i, v) :: r => upd (tab f r) i v
/-- The function holds what the list says. -/
def agrees {α : Type} (f : Nat → α) : List (Nat × α) → Prop
  | [] => True
  | (i, v) :: r => f i = v ∧ agrees f r
theorem tab_of_agrees {α : Type} (f : Nat → α) : ∀ l, agrees f l → tab f l = f
  | [], _ => rfl
  | (i, v) :: r, ⟨h, hr⟩ => by
    funext j
    simp only [tab, tab_of_agrees f r hr]
    by_cases hj : j = i
    · subst hj; rw [upd_same, h]
    · rw [upd_other _ _ hj]

/-- The frame of N slots that a function tells. -/
def actOf (N : Nat) (E : Env) : Act := ⟨Array.ofFn (n := N) (fun i => E i.val), []⟩
/-- What an operand holds in such a frame. -/
def ev (N : Nat) (E : Env) : Operand → Value
  | .tmp t => bif Nat.blt t N then E t else undef
  | .const v => v
  | .global g => .pointer (some ⟨g, 0, none⟩)
  | .func f => .func (.func f) #[] #[]
theorem getD_ofFn (N : Nat) (E : Env) (t : Nat) : (Array.ofFn (n := N) (fun i => E i.val)).getD t undef = bif Nat.blt t N then E t else undef := by
  by_cases h : t < N
  · have : Nat.blt t N = true := blt_iff.2 h
    simp [this, h]
  · have : Nat.blt t N = false := by
      cases hb : Nat.blt t N with
      | false => rfl
      | true => exact absurd (blt_iff.1 hb) h
    simp [this, h]
theorem eval_actOf (N : Nat) (E : Env) : (actOf N E).eval = ev N E := by
  funext x
  cases x with
  | tmp t => exact getD_ofFn N E t
  | _ => rfl
theorem put_actOf (N : Nat) (E : Env) (d : Nat) (v : Value) : (actOf N E).put (some d) v = actOf N (upd E d v) := by
  simp only [Act.put, actOf]
  congr 1
  apply Array.ext_getElem?
  intro i
  rw [Array.getElem?_setIfInBounds]
  simp only [Array.getElem?_ofFn, Array.size_ofFn]
  by_cases hi : d = i
  · subst hi
    by_cases hd : d < N
    · simp [hd, upd_same]
    · simp [hd]
  · rw [if_neg hi]
    by_cases hd : i < N
    · simp [hd, upd_other _ _ (Ne.symm hi)]
    · simp [hd]
theorem put_actOf_none (N : Nat) (E : Env) (v : Value) : (actOf N E).put none v = actOf N E := rfl

/-- What is asked at each end of a piece of code. -/
structure Cont where
  nrm : Env → World → Prop
  ret : Env → World → Prop
  brk : Nat → Env → World → Prop
def Cont.Q (N : Nat) (k : Cont) : Exit → Act → World → Prop
  | .normal, a, w => ∃ E, a = actOf N E ∧ k.nrm E w
  | .ret, a, w => ∃ E, a = actOf N E ∧ k.ret E w
  | .exit id, a, w => ∃ E, a = actOf N E ∧ k.brk id E w
  | _, _, _ => False
/-- The code, begun in this frame and world, comes to such an end. -/
def CW (P : Program) (N : Nat) (c : Code) (k : Cont) (E : Env) (w : World) : Prop := c.wp P (k.Q N) (actOf N E) w

section
variable {P : Program} {N : Nat} {k : Cont} {E : Env} {w : World}
theorem CW.mono {c : Code} {k' : Cont} (h : CW P N c k E w) (hn : ∀ E w, k.nrm E w → k'.nrm E w) (hr : ∀ E w, k.ret E w → k'.ret E w) (hb : ∀ i E w, k.brk i E w → k'.brk i E w) : CW P N c k' E w :=
  Code.wp_mono (fun e a w q => by
    cases e <;> first
      | exact q.elim
      | (obtain ⟨E, rfl, q⟩ := q; first | exact ⟨E, rfl, hn _ _ q⟩ | exact ⟨E, rfl, hr _ _ q⟩ | exact ⟨E, rfl, hb _ _ _ q⟩)) h
theorem CW.seq {x y : Code} (h : CW P N x { k with nrm := fun E w => CW P N y k E w } E w) : CW P N (.seq x y) k E w :=
  wp_seq (Code.wp_mono (fun e a w q => by
    cases e <;> first
      | exact q.elim
      | exact q
      | (obtain ⟨E, rfl, q⟩ := q; exact q)) h)
theorem CW.skip (h : k.nrm E w) : CW P N .skip k E w := wp_skip ⟨E, rfl, h⟩
theorem CW.ret (h : k.ret E w) : CW P N .ret k E w := wp_ret ⟨E, rfl, h⟩
theorem CW.exit {id : Nat} (h : k.brk id E w) : CW P N (.exit id) k E w := wp_exit ⟨E, rfl, h⟩
theorem CW.block {id : Nat} {c : Code} (h : CW P N c { k with brk := fun i E w => (i = id ∧ k.nrm E w) ∨ (i ≠ id ∧ k.brk i E w) } E w) : CW P N (.block id c) k E w :=
  wp_block (Code.wp_mono (fun e a w q => by
    cases e <;> first
      | exact q.elim
      | exact q
      | (obtain ⟨E, rfl, q⟩ := q
         simp only [Exit.inBlock]
         rcases q with ⟨hi, q⟩ | ⟨hi, q⟩
         · rw [if_pos hi]; exact ⟨E, rfl, q⟩
         · rw [if_neg hi]; exact ⟨E, rfl, q⟩)) h)
theorem CW.cond {c : Operand} {x y : Code} {b : Bool} (hc : ev N E c = .bool b) (ht : b = true → CW P N x k E w) (hf : b = false → CW P N y k E w) : CW P N (.cond c x y) k E w :=
  wp_cond_split (by rw [eval_actOf]; exact hc) ht hf
theorem CW.cond_t {c : Operand} {x y : Code} (hc : ev N E c = .bool true) (ht : CW P N x k E w) : CW P N (.cond c x y) k E w := CW.cond hc (fun _ => ht) (fun h => by cases h)
theorem CW.cond_f {c : Operand} {x y : Code} (hc : ev N E c = .bool false) (hf : CW P N y k E w) : CW P N (.cond c x y) k E w := CW.cond hc (fun h => by cases h) (fun _ => hf)
/-- A loop, with what holds at its head when at most n rounds are left. -/
theorem CW.loop {c : Code} (I : Nat → Env → World → Prop) (n : Nat) (h0 : I n E w)
    (round : ∀ n E w, I n E w → CW P N c { k with nrm := fun E' w' => ∃ m, m < n ∧ I m E' w' } E w) : CW P N (.loop c) k E w := by
  intro b kk cs
  have key : ∀ n E w, I n E w → ∃ e a' w', k.Q N e a' w' ∧ Arrives P (lone (b.at (actOf N E) (.code c :: .inLoop c :: kk)) cs w) b kk cs e a' w' := by
    intro n
    induction n using Nat.strongRecOn with
    | _ n ih =>
      intro E w hI
      obtain ⟨e, a1, w1, hq, harr⟩ := round n E w hI b (.inLoop c :: kk) cs
      cases e with
      | normal =>
        obtain ⟨E1, rfl, m, hm, hI1⟩ := hq
        obtain ⟨e2, a2, w2, hq2, harr2⟩ := ih m hm E1 w1 hI1
        exact ⟨e2, a2, w2, hq2, .of_steps (Steps.trans harr (.one step_inLoop)) harr2⟩
      | exit id =>
        obtain ⟨E1, rfl, hq⟩ := hq
        exact ⟨.exit id, _, w1, ⟨E1, rfl, hq⟩, .pass (x := .inLoop c) rfl (fun _ _ => .inl (by simp)) harr⟩
      | ret =>
        obtain ⟨E1, rfl, hq⟩ := hq
        exact ⟨.ret, _, w1, ⟨E1, rfl, hq⟩, .pass (x := .inLoop c) rfl (fun _ _ => .inl (by simp)) harr⟩
      | goto l => exact hq.elim
      | panic ch => exact hq.elim
      | outgrown => exact hq.elim
  obtain ⟨e, a', w', hq, harr⟩ := key n E w h0
  exact ⟨e, a', w', hq, .of_steps (.one step_loop) harr⟩
/-- The frame is as the list says, whatever the other slots hold. -/
theorem CW.base {c : Code} (l : List (Nat × Value)) (h : agrees E l) (hc : ∀ J : Env, CW P N c k (tab J l) w) : CW P N c k E w := by
  have := hc E
  rwa [tab_of_agrees E l h] at this

/-- The same, and of the world only what is told. -/
theorem CW.fresh {c : Code} (l : List (Nat × Value)) (h : agrees E l) {φ : World → Prop} (hw : φ w) (hc : ∀ (J : Env) (w : World), φ w → CW P N c k (tab J l) w) : CW P N c k E w := CW.base l h fun J => hc J w hw

/-- The list of a region's operations, walked as it stands. -/
def LW (P : Program) (N : Nat) (ops : Array Oper) (k : Cont) (l : List Oper) (E : Env) (w : World) : Prop := wpList P ops (k.Q N) l (actOf N E) w
theorem CW.region {id : Nat} {l : List Oper} (h : LW P N l.toArray k l E w) : CW P N (.region id l.toArray false) k E w := wp_region_lit h
variable {ops : Array Oper} {rest : List Oper} {o : Oper}
theorem LW.nil (h : k.nrm E w) : LW P N ops k [] E w := ⟨E, rfl, h⟩
theorem LW.val {w' : World} {v : Value} {d : Nat} (hg : o.guard = none) (hd : o.dst = some d) (hr : (execOp (ev N E) o).run P w = .ok (.value v) w') (h : LW P N ops k rest (upd E d v) w') : LW P N ops k (o :: rest) E w :=
  wpList_plain hg fun K hK => by
    unfold Oper.wp
    rw [eval_actOf, hr]
    show K _ _
    rw [hd, put_actOf]
    exact hK _ _ h
theorem LW.eff {w' : World} (hg : o.guard = none) (hd : o.dst = none) (hr : (execOp (ev N E) o).run P w = .ok .skip w') (h : LW P N ops k rest E w') : LW P N ops k (o :: rest) E w :=
  wpList_plain hg fun K hK => by
    unfold Oper.wp
    rw [eval_actOf, hr]
    show K _ _
    rw [hd, put_actOf_none]
    exact hK _ _ h
theorem LW.vnone {w' : World} {v : Value} (hg : o.guard = none) (hd : o.dst = none) (hr : (execOp (ev N E) o).run P w = .ok (.value v) w') (h : LW P N ops k rest E w') : LW P N ops k (o :: rest) E w :=
  wpList_plain hg fun K hK => by
    unfold Oper.wp
    rw [eval_actOf, hr]
    show K _ _
    rw [hd, put_actOf_none]
    exact hK _ _ h
theorem LW.call {f : FuncId} {args : Array Value} {w' : World} {d : Nat} (hg : o.guard = none) (hd : o.dst = some d) (hr : (execOp (ev N E) o).run P w = .ok (.enter f args) w')
    (h : Calls P f args w' fun e w'' => ∃ v, e = .returned v ∧ LW P N ops k rest (upd E d v) w'') : LW P N ops k (o :: rest) E w :=
  wpList_plain hg fun K hK => by
    unfold Oper.wp
    rw [eval_actOf, hr]
    refine Calls.mono h fun e w'' ⟨v, he, hw⟩ => ?_
    subst he
    show K _ _
    rw [hd, put_actOf]
    exact hK _ _ hw
/-- An operation whose guard says no. -/
theorem LW.pass {d : Nat} (hw : Region.wanted o (yielded ops (actOf N E).tmps) = false) (hd : o.dst = some d) (h : LW P N ops k rest (upd E d undef) w) : LW P N ops k (o :: rest) E w :=
  wpList_step fun K hK => by
    rw [hw, hd, put_actOf]
    exact hK _ _ h
/-- An operation whose guard says yes, and that yields a value. -/
theorem LW.gval {w' : World} {v : Value} {d : Nat} (hw : Region.wanted o (yielded ops (actOf N E).tmps) = true) (hd : o.dst = some d) (hr : (execOp (ev N E) o).run P w = .ok (.value v) w') (h : LW P N ops k rest (upd E d v) w') : LW P N ops k (o :: rest) E w :=
  wpList_step fun K hK => by
    simp only [hw, if_true]
    unfold Oper.wp
    rw [eval_actOf, hr]
    show K _ _
    rw [hd, put_actOf]
    exact hK _ _ h
theorem LW.gcall {f : FuncId} {args : Array Value} {w' : World} {d : Nat} (hw : Region.wanted o (yielded ops (actOf N E).tmps) = true) (hd : o.dst = some d) (hr : (execOp (ev N E) o).run P w = .ok (.enter f args) w')
    (h : Calls P f args w' fun e w'' => ∃ v, e = .returned v ∧ LW P N ops k rest (upd E d v) w'') : LW P N ops k (o :: rest) E w :=
  wpList_step fun K hK => by
    simp only [hw, if_true]
    unfold Oper.wp
    rw [eval_actOf, hr]
    refine Calls.mono h fun e w'' ⟨v, he, hw⟩ => ?_
    subst he
    show K _ _
    rw [hd, put_actOf]
    exact hK _ _ hw
theorem LW.base {l : List Oper} (t : List (Nat × Value)) (h : agrees E t) (hc : ∀ J : Env, LW P N ops k l (tab J t) w) : LW P N ops k l E w := by
  have := hc E
  rwa [tab_of_agrees E t h] at this
/-- The guard's answer, off the frame as a function. -/
theorem yielded_actOf {j t : Nat} {g : Oper} {b : Bool} (hj : ops[j]? = some g) (hd : g.dst = some t) (ht : Nat.blt t N = true) (hE : E t = .bool b) : yielded ops (actOf N E).tmps j = some b := by
  have hlt : t < N := blt_iff.1 ht
  have hx : (actOf N E).tmps[t]? = some (.bool b) := by
    simp only [actOf, Array.getElem?_ofFn, hlt, dite_true, hE]
  unfold yielded
  simp [hj, hd, hx]
theorem wanted_actOf {j t : Nat} {g : Oper} {want b : Bool} (hg : o.guard = some (j, want)) (hj : ops[j]? = some g) (hd : g.dst = some t) (ht : Nat.blt t N = true) (hE : E t = .bool b) : Region.wanted o (yielded ops (actOf N E).tmps) = (b == want) := by
  unfold Region.wanted
  rw [hg]
  simp only [yielded_actOf hj hd ht hE]
  cases b <;> cases want <;> rfl

/-! ### Regions that draw their order: an order of ours. 'true': the operation yields its value in every world that meets S; 'false': it is the only one that can come up. -/
def ordB (ops : Array Oper) : List (Nat × Bool) → Array Bool → Bool
  | [], listed => (Region.ready .any ops listed).isEmpty
  | (i, true) :: r, listed => (Region.ready .any ops listed).contains i && Region.free .any ops listed i && ordB ops r (listed.setIfInBounds i true)
  | (i, false) :: r, listed => decide (Region.ready .any ops listed = [i]) && ordB ops r (listed.setIfInBounds i true)
def OW (P : Program) (N : Nat) (ops : Array Oper) (k : Cont) (S : World → Prop) : List (Nat × Bool) → Env → World → Prop
  | [], E, w => k.nrm E w
  | (i, true) :: r, E, w => S w ∧ ∃ o d v, ops[i]? = some o ∧ o.dst = some d ∧ YieldsIf P ops S o v (actOf N E) ∧ OW P N ops k S r (upd E d v) w
  | (i, false) :: r, E, w => wpOp P ops (k.Q N) i (fun a' w' => S w' ∧ ∃ E', a' = actOf N E' ∧ OW P N ops k S r E' w') (actOf N E) w
theorem OW.held {S : World → Prop} (hs : Region.noSelect ops = true) : ∀ (l : List (Nat × Bool)) (listed : Array Bool) (E : Env) (w : World), ordB ops l listed = true → OW P N ops k S l E w → wpAnyH P .any ops (k.Q N) S l.length listed (actOf N E) w
  | [], listed, E, w, hB, h => wpAnyH_done (by simpa [ordB] using hB) ⟨E, rfl, h⟩ _
  | (i, true) :: r, listed, E, w, hB, h => by
    simp only [ordB, Bool.and_eq_true] at hB
    obtain ⟨hS, o, d, v, hi, hd, hy, h⟩ := h
    refine wpAnyH_take hi hs hB.1.2 hB.1.1 (fun c a w q => q.elim) hy hS ?_
    rw [hd, put_actOf]
    exact OW.held hs r _ _ _ hB.2 h
  | (i, false) :: r, listed, E, w, hB, h => by
    simp only [ordB, Bool.and_eq_true, decide_eq_true_eq] at hB
    refine wpAnyH_all hB.1 (by simp) fun j hj => ?_
    have hj' : j = i := by simpa using hj
    subst hj'
    refine wpOp_mono (fun a' w' ⟨hS, E', he, hw⟩ => ⟨hS, ?_⟩) h
    subst he
    exact OW.held hs r _ _ _ hB.2 hw
theorem CW.drawn {id : Nat} {l : List Oper} (S : World → Prop) (ord : List (Nat × Bool)) (hm : P.follows .mixedOrders = true) (hs : Region.noSelect l.toArray = true)
    (hB : (Nat.beq ord.length l.length && ordB l.toArray ord (Array.replicate l.toArray.size false)) = true) (h : OW P N l.toArray k S ord E w.drew) : CW P N (.region id l.toArray true) k E w := by
  simp only [Bool.and_eq_true, Nat.beq_eq] at hB
  refine wp_region_held (S := S) hm ?_
  have := OW.held (P := P) (N := N) (k := k) (S := S) hs ord _ E w.drew hB.2 h
  have hlen : ord.length = l.toArray.size := by simpa using hB.1
  rw [hlen] at this
  exact this
section
variable {S : World → Prop} {i d : Nat} {r : List (Nat × Bool)} {v : Value}
theorem OW.nil (h : k.nrm E w) : OW P N ops k S [] E w := h
theorem OW.val (hS : S w) (hi : ops[i]? = some o) (hg : o.guard = none) (hd : o.dst = some d) (hr : ∀ w, S w → (execOp (ev N E) o).run P w = .ok (.value v) w) (h : OW P N ops k S r (upd E d v) w) : OW P N ops k S ((i, true) :: r) E w :=
  ⟨hS, o, d, v, hi, hd, .inl ⟨by simp [Region.wanted, hg], fun w hS => by rw [eval_actOf]; exact hr w hS⟩, h⟩
theorem OW.pass (hS : S w) (hi : ops[i]? = some o) (hw : Region.wanted o (yielded ops (actOf N E).tmps) = false) (hd : o.dst = some d) (h : OW P N ops k S r (upd E d undef) w) : OW P N ops k S ((i, true) :: r) E w :=
  ⟨hS, o, d, undef, hi, hd, .inr ⟨hw, rfl⟩, h⟩
theorem OW.gval (hS : S w) (hi : ops[i]? = some o) (hw : Region.wanted o (yielded ops (actOf N E).tmps) = true) (hd : o.dst = some d) (hr : ∀ w, S w → (execOp (ev N E) o).run P w = .ok (.value v) w) (h : OW P N ops k S r (upd E d v) w) : OW P N ops k S ((i, true) :: r) E w :=
  ⟨hS, o, d, v, hi, hd, .inl ⟨hw, fun w hS => by rw [eval_actOf]; exact hr w hS⟩, h⟩
theorem OW.act {w' : World} (hi : ops[i]? = some o) (hg : o.guard = none) (hd : o.dst = some d) (hr : (execOp (ev N E) o).run P w = .ok (.value v) w') (hS : S w') (h : OW P N ops k S r (upd E d v) w') : OW P N ops k S ((i, false) :: r) E w := by
  show wpOp P ops (k.Q N) i _ (actOf N E) w
  unfold wpOp
  simp only [hi, Region.wanted, hg, if_true]
  refine .inl ?_
  unfold Oper.wp
  rw [eval_actOf, hr]
  exact ⟨hS, _, by rw [hd, put_actOf], h⟩
theorem OW.eff {w' : World} (hi : ops[i]? = some o) (hg : o.guard = none) (hd : o.dst = none) (hr : (execOp (ev N E) o).run P w = .ok .skip w') (hS : S w') (h : OW P N ops k S r E w') : OW P N ops k S ((i, false) :: r) E w := by
  show wpOp P ops (k.Q N) i _ (actOf N E) w
  unfold wpOp
  simp only [hi, Region.wanted, hg, if_true]
  refine .inl ?_
  unfold Oper.wp
  rw [eval_actOf, hr]
  exact ⟨hS, _, by rw [hd, put_actOf_none], h⟩
theorem OW.call {f : FuncId} {args : Array Value} {w' : World} (hi : ops[i]? = some o) (hg : o.guard = none) (hd : o.dst = some d) (hr : (execOp (ev N E) o).run P w = .ok (.enter f args) w')
    (h : Calls P f args w' fun e w'' => ∃ v, e = .returned v ∧ S w'' ∧ OW P N ops k S r (upd E d v) w'') : OW P N ops k S ((i, false) :: r) E w := by
  show wpOp P ops (k.Q N) i _ (actOf N E) w
  unfold wpOp
  simp only [hi, Region.wanted, hg, if_true]
  refine .inl ?_
  unfold Oper.wp
  rw [eval_actOf, hr]
  refine Calls.mono h fun e w'' ⟨v, he, hS, hw⟩ => ?_
  subst he
  exact ⟨hS, _, by rw [hd, put_actOf], hw⟩
end
end

/-! ### A function's body -/
/-- The frame in which a call begins. -/
def argE (l : List Value) : Env := fun i => l.getD i undef
theorem args_actOf (l : List Value) (N : Nat) (h : l.length ≤ N) : (⟨l.toArray ++ Array.replicate (N - l.toArray.size) undef, []⟩ : Act) = actOf N (argE l) := by
  simp only [actOf]
  congr 1
  apply Array.ext
  · simp; omega
  · intro i h1 h2
    simp only [Array.getElem_ofFn, argE]
    rw [Array.getElem_append]
    split
    · rename_i hi
      simp at hi
      simp [List.getD, hi]
    · rename_i hi
      simp at hi
      simp [List.getD, List.getElem?_eq_none hi]
/-- The value that a frame hands back. -/
def RetV (P : Program) (fn : Func) (N : Nat) (E : Env) (w : World) (v : Value) : Prop := (results fn (actOf N E).tmps).run P w = .ok v w
theorem RetV.none {P : Program} {fn : Func} {N : Nat} {E : Env} {w : World} (h : fn.results = #[]) : RetV P fn N E w (.tuple #[]) := results_none h _ _ _
theorem RetV.one {P : Program} {fn : Func} {N t : Nat} {E : Env} {w : World} (h : fn.results = #[.tmp t]) (ht : Nat.blt t N = true) : RetV P fn N E w (E t) := by
  have := results_tmp h (actOf N E).tmps P w
  rw [show (actOf N E).tmps.getD t undef = E t from (getD_ofFn N E t).trans (by rw [ht]; rfl)] at this
  exact this
theorem RetV.two {P : Program} {fn : Func} {N t u : Nat} {E : Env} {w : World} (h : fn.results = #[.tmp t, .tmp u]) (ht : Nat.blt t N = true) (hu : Nat.blt u N = true) : RetV P fn N E w (.tuple #[E t, E u]) := by
  have := results_tmp2 h (actOf N E).tmps P w
  rw [show (actOf N E).tmps.getD t undef = E t from (getD_ofFn N E t).trans (by rw [ht]; rfl), show (actOf N E).tmps.getD u undef = E u from (getD_ofFn N E u).trans (by rw [hu]; rfl)] at this
  exact this
theorem RetV.four {P : Program} {fn : Func} {N t u x y : Nat} {E : Env} {w : World} (h : fn.results = #[.tmp t, .tmp u, .tmp x, .tmp y]) (ht : Nat.blt t N = true) (hu : Nat.blt u N = true) (hx : Nat.blt x N = true) (hy : Nat.blt y N = true) : RetV P fn N E w (.tuple #[E t, E u, E x, E y]) := by
  have key : ∀ s, Nat.blt s N = true → (actOf N E).tmps.getD s undef = E s := fun s hs => (getD_ofFn N E s).trans (by rw [hs]; rfl)
  show (results fn (actOf N E).tmps).run P w = _
  have hres : (results fn (actOf N E).tmps).run P w = .ok (.tuple #[(actOf N E).tmps.getD t undef, (actOf N E).tmps.getD u undef, (actOf N E).tmps.getD x undef, (actOf N E).tmps.getD y undef]) w := by
    simp [results, h]
  rw [hres, key t ht, key u hu, key x hx, key y hy]
/-- What a body must come to. -/
def retK (P : Program) (fn : Func) (N : Nat) (R : Ending → World → Prop) : Cont :=
  { nrm := fun E w => ∃ v, RetV P fn N E w v ∧ R (.returned v) w, ret := fun E w => ∃ v, RetV P fn N E w v ∧ R (.returned v) w, brk := fun _ _ _ => False }
theorem calls_of_CW {P : Program} {f : FuncId} {fn : Func} {c : Code} {N : Nat} {l : List Value} {w : World} {R : Ending → World → Prop} (hf : P.funcs[f]? = some fn) (hb : fn.body = some c) (hn : fn.ntmps = N) (hl : Nat.ble l.length N = true)
    (h : CW P N c (retK P fn N R) (argE l) w) : Calls P f l.toArray w R := by
  refine calls_of_wp hf hb ?_
  rw [hn, args_actOf l N (by simpa [Nat.ble_eq] using hl)]
  refine Code.wp_mono (fun e a w q => ?_) h
  cases e <;> first
    | exact q.elim
    | (obtain ⟨E, rfl, v, hv, hR⟩ := q; exact ⟨rfl, v, hv, hR⟩)
    | (obtain ⟨E, rfl, q⟩ := q; exact q.elim)
/-! ### Two that may come up in either order, behind operations that yield in every world that meets S -/
section
variable {P : Program} {N : Nat} {k : Cont} {ops : Array Oper} {S : World → Prop}
def OWP (P : Program) (N : Nat) (ops : Array Oper) (S : World → Prop) (K : Env → World → Prop) : List Nat → Env → World → Prop
  | [], E, w => K E w
  | i :: r, E, w => S w ∧ ∃ o d v, ops[i]? = some o ∧ o.dst = some d ∧ YieldsIf P ops S o v (actOf N E) ∧ OWP P N ops S K r (upd E d v) w
def ordP (ops : Array Oper) (i j : Nat) (ri rj : List (Nat × Bool)) : List Nat → Array Bool → Bool
  | [], listed => decide (Region.ready .any ops listed = [i, j]) && ordB ops ri (listed.setIfInBounds i true) && ordB ops rj (listed.setIfInBounds j true) && Nat.beq ri.length rj.length
  | q :: r, listed => (Region.ready .any ops listed).contains q && Region.free .any ops listed q && ordP ops i j ri rj r (listed.setIfInBounds q true)
theorem OWP.held {i j : Nat} {ri rj : List (Nat × Bool)} (hs : Region.noSelect ops = true) : ∀ (l : List Nat) (listed : Array Bool) (E : Env) (w : World), ordP ops i j ri rj l listed = true →
    OWP P N ops S (fun E w => OW P N ops k S ((i, false) :: ri) E w ∧ OW P N ops k S ((j, false) :: rj) E w) l E w → wpAnyH P .any ops (k.Q N) S (l.length + (ri.length + 1)) listed (actOf N E) w
  | [], listed, E, w, hB, h => by
    simp only [ordP, Bool.and_eq_true, decide_eq_true_eq, Nat.beq_eq] at hB
    simp only [List.length_nil, Nat.zero_add]
    refine wpAnyH_all hB.1.1.1 (by simp) fun q hq => ?_
    have hq' : q = i ∨ q = j := by simpa using hq
    rcases hq' with rfl | rfl
    · refine wpOp_mono (fun a' w' ⟨hS, E', he, hw⟩ => ⟨hS, ?_⟩) h.1
      subst he
      exact OW.held hs ri _ _ _ hB.1.1.2 hw
    · refine wpOp_mono (fun a' w' ⟨hS, E', he, hw⟩ => ⟨hS, ?_⟩) h.2
      subst he
      rw [hB.2]
      exact OW.held hs rj _ _ _ hB.1.2 hw
  | q :: r, listed, E, w, hB, h => by
    simp only [ordP, Bool.and_eq_true] at hB
    obtain ⟨hS, o, d, v, hi, hd, hy, h⟩ := h
    rw [show (q :: r).length + (ri.length + 1) = (r.length + (ri.length + 1)) + 1 by simp; omega]
    refine wpAnyH_take hi hs hB.1.2 hB.1.1 (fun c a w q => q.elim) hy hS ?_
    rw [hd, put_actOf]
    exact OWP.held hs r _ _ _ hB.2 h
theorem CW.drawn2 {E : Env} {w : World} {id : Nat} {l : List Oper} (S : World → Prop) (pre : List Nat) (i j : Nat) (ri rj : List (Nat × Bool)) (hm : P.follows .mixedOrders = true) (hs : Region.noSelect l.toArray = true)
    (hB : (Nat.beq (pre.length + (ri.length + 1)) l.length && ordP l.toArray i j ri rj pre (Array.replicate l.toArray.size false)) = true)
    (h : OWP P N l.toArray S (fun E w => OW P N l.toArray k S ((i, false) :: ri) E w ∧ OW P N l.toArray k S ((j, false) :: rj) E w) pre E w.drew) : CW P N (.region id l.toArray true) k E w := by
  simp only [Bool.and_eq_true, Nat.beq_eq] at hB
  refine wp_region_held (S := S) hm ?_
  have := OWP.held (P := P) (N := N) (k := k) (S := S) hs pre _ E w.drew hB.2 h
  have hlen : pre.length + (ri.length + 1) = l.toArray.size := by simpa using hB.1
  rw [hlen] at this
  exact this
variable {E : Env} {w : World} {K : Env → World → Prop} {o : Oper} {i d : Nat} {r : List Nat} {v : Value}
theorem OWP.val (hS : S w) (hi : ops[i]? = some o) (hg : o.guard = none) (hd : o.dst = some d) (hr : ∀ w, S w → (execOp (ev N E) o).run P w = .ok (.value v) w) (h : OWP P N ops S K r (upd E d v) w) : OWP P N ops S K (i :: r) E w :=
  ⟨hS, o, d, v, hi, hd, .inl ⟨by simp [Region.wanted, hg], fun w hS => by rw [eval_actOf]; exact hr w hS⟩, h⟩
theorem OWP.nil (h : K E w) : OWP P N ops S K [] E w := h
end
attribute [irreducible] CW LW OW OWP
end Go.Proofs.YtfaopfaghnefdaaDoor
