/- The ground: frames and heaps as lists, laws of the model's operations and of regions that draw their order, proved for every program; conditions: each law's own. -/
import Derived.WalkKit
import Derived.OrdersHeld
import Derived.Defers
/- The ground of the proofs: what a frame and a heap hold, as lists; judgements on operations, lists of operations and code over them; regions that draw their order. No function of the program is looked at here. -/
namespace Go.Proofs.YtlhncphipfkkjaaGreatDoor
open Go

abbrev FL := List (Nat × Value)
abbrev HL := List (Nat × Obj)

/-! ## The heap as a list of blocks -/

structure Own (g w : World) (H : HL) : Prop where
  nodup : (H.map (·.1)).Nodup
  mem : ∀ p ∈ H, w.heap[p.1]? = some p.2
  os : w.os = g.os
  out : w.output = g.output

inductive Foc : HL → Nat → Obj → (Obj → HL) → Prop
  | head {b : Nat} {o : Obj} {H : HL} : Foc ((b, o) :: H) b o (fun o' => (b, o') :: H)
  | tail {p : Nat × Obj} {H : HL} {b : Nat} {o : Obj} {K : Obj → HL} : Foc H b o K → Foc (p :: H) b o (fun o' => p :: K o')

theorem Foc.mem {H : HL} {b : Nat} {o : Obj} {K : Obj → HL} (h : Foc H b o K) : (b, o) ∈ H := by
  induction h with
  | head => exact List.mem_cons_self
  | tail _ ih => exact List.mem_cons_of_mem _ ih

theorem Foc.keys {H : HL} {b : Nat} {o : Obj} {K : Obj → HL} (h : Foc H b o K) (o' : Obj) : (K o').map (·.1) = H.map (·.1) := by
  induction h with
  | head => rfl
  | tail _ ih => simp [ih]

theorem Foc.mem_set {H : HL} {b : Nat} {o : Obj} {K : Obj → HL} (h : Foc H b o K) (hn : (H.map (·.1)).Nodup) (o' : Obj) :
    ∀ p ∈ K o', p = (b, o') ∨ (p ∈ H ∧ p.1 ≠ b) := by
  induction h with
  | head =>
    rename_i b o H
    intro p hp
    simp only [List.map_cons, List.nodup_cons] at hn
    rcases List.mem_cons.1 hp with rfl | hp
    · exact .inl rfl
    · exact .inr ⟨List.mem_cons_of_mem _ hp, fun e => hn.1 (e ▸ List.mem_map.2 ⟨p, hp, rfl⟩)⟩
  | tail hK ih =>
    rename_i q H b o K
    intro p hp
    simp only [List.map_cons, List.nodup_cons] at hn
    rcases List.mem_cons.1 hp with rfl | hp
    · refine .inr ⟨List.mem_cons_self, fun e => hn.1 ?_⟩
      rw [e]; exact List.mem_map.2 ⟨(b, o), hK.mem, rfl⟩
    · rcases ih hn.2 p hp with h | h
      · exact .inl h
      · exact .inr ⟨List.mem_cons_of_mem _ h.1, h.2⟩

theorem Own.at {g w : World} {H : HL} {b : Nat} {o : Obj} {K : Obj → HL} (h : Own g w H) (hf : Foc H b o K) : w.heap[b]? = some o :=
  h.mem _ hf.mem

theorem Own.upd {g w w' : World} {H : HL} {b : Nat} {o o' : Obj} {K : Obj → HL} (h : Own g w H) (hf : Foc H b o K)
    (hb : w'.heap[b]? = some o') (hc : ∀ c, c ≠ b → w'.heap[c]? = w.heap[c]?) (hos : w'.os = w.os) (hout : w'.output = w.output) : Own g w' (K o') where
  nodup := by rw [hf.keys]; exact h.nodup
  mem := fun p hp => by
    rcases hf.mem_set h.nodup o' p hp with rfl | ⟨hm, hne⟩
    · exact hb
    · rw [hc _ hne]; exact h.mem p hm
  os := hos.trans h.os
  out := hout.trans h.out

theorem Own.lt {g w : World} {H : HL} (h : Own g w H) {p : Nat × Obj} (hp : p ∈ H) : p.1 < w.heap.size := by
  have := h.mem p hp
  exact (Array.getElem?_eq_some_iff.1 this).1

theorem Own.alloc {g w : World} {H : HL} (h : Own g w H) (o : Obj) : Own g (w.alloc o) ((w.heap.size, o) :: H) where
  nodup := by
    simp only [List.map_cons, List.nodup_cons]
    refine ⟨fun hm => ?_, h.nodup⟩
    obtain ⟨p, hp, he⟩ := List.mem_map.1 hm
    have := h.lt hp
    omega
  mem := fun p hp => by
    rcases List.mem_cons.1 hp with rfl | hp
    · show (w.heap.push o)[w.heap.size]? = some o
      simp
    · have hl := h.lt hp
      have := h.mem p hp
      simp only [World.alloc]
      rw [Array.getElem?_push_lt (by omega)]
      rw [Array.getElem?_eq_getElem hl] at this
      exact this
  os := h.os
  out := h.out

theorem Own.drew {g w : World} {H : HL} (h : Own g w H) : Own g w.drew H := ⟨h.nodup, h.mem, h.os, h.out⟩

theorem Own.perm {g w : World} {H H' : HL} (h : Own g w H) (hp : H.Perm H') : Own g w H' where
  nodup := (hp.map _).nodup_iff.1 h.nodup
  mem := fun p hm => h.mem p (hp.mem_iff.2 hm)
  os := h.os
  out := h.out

theorem Own.sub {g w : World} {H H' : HL} (h : Own g w H) (hp : H'.Sublist H) : Own g w H' where
  nodup := h.nodup.sublist (hp.map _)
  mem := fun p hm => h.mem p (hp.subset hm)
  os := h.os
  out := h.out

def Keep (w w' : World) : Prop := ∀ g H, Own g w H → Own g w' H
theorem Keep.refl (w : World) : Keep w w := fun _ _ h => h
theorem Keep.trans {a b c : World} (h : Keep a b) (h' : Keep b c) : Keep a c := fun g H x => h' g H (h g H x)

/-! ## The frame as a list of slots -/

def FL.get : FL → Nat → Option Value
  | [], _ => none
  | (i, v) :: r, n => match Nat.beq i n with
    | true => some v
    | false => FL.get r n

def ev (F : FL) : Operand → Option Value
  | .tmp t => F.get t
  | .const v => some v
  | .global g => some (.pointer (some ⟨g, 0, none⟩))
  | .func f => some (.func (.func f) #[] #[])

structure St (n : Nat) (D : List Deferred) (F : FL) (g : World) (H : HL) (a : Act) (w : World) : Prop where
  size : a.tmps.size = n
  defers : a.defers = D
  frame : ∀ i v, F.get i = some v → a.tmps[i]? = some v
  own : Own g w H

def FHas (a : Act) (F : FL) : Prop := ∀ i v, F.get i = some v → a.tmps[i]? = some v

theorem FHas.eval {a : Act} {F : FL} (h : FHas a F) {x : Operand} {v : Value} (hx : ev F x = some v) : a.eval x = v := by
  cases x with
  | tmp t =>
    have := h t v hx
    simp [Act.eval, this]
  | const c => simpa [ev, Act.eval] using hx
  | global b => simpa [ev, Act.eval] using hx
  | func f => simpa [ev, Act.eval] using hx

theorem FL.get_cons (F : FL) (d : Nat) (v : Value) (i : Nat) : FL.get ((d, v) :: F) i = if d = i then some v else F.get i := by
  simp only [FL.get]
  by_cases h : d = i
  · subst h
    have : Nat.beq d d = true := Nat.beq_refl d
    rw [this]; simp
  · have : Nat.beq d i = false := by
      cases hb : Nat.beq d i with
      | false => rfl
      | true => exact absurd (Nat.eq_of_beq_eq_true hb) h
    rw [this]; simp [h]

theorem St.put {n : Nat} {D : List Deferred} {F : FL} {g : World} {H : HL} {a : Act} {w : World} (h : St n D F g H a w) {d : Nat} (hd : Nat.blt d n = true) (v : Value) :
    St n D ((d, v) :: F) g H (a.put (some d) v) w where
  size := by simp [Act.put, h.size]
  defers := h.defers
  frame := fun i u hi => by
    have hlt : d < n := Nat.le_of_ble_eq_true hd
    rw [FL.get_cons] at hi
    by_cases hdi : d = i
    · subst hdi
      simp only [if_true, Option.some.injEq] at hi
      subst hi
      simp [Act.put, h.size, hlt]
    · simp only [hdi, if_false] at hi
      have := h.frame i u hi
      simp [Act.put, Array.getElem?_setIfInBounds_ne hdi, this]
  own := h.own

theorem St.world {n : Nat} {D : List Deferred} {F : FL} {g : World} {H H' : HL} {a : Act} {w w' : World} (h : St n D F g H a w) (ho : Own g w' H') : St n D F g H' a w' :=
  ⟨h.size, h.defers, h.frame, ho⟩

/-- F' is a part of F -/
def FSub (F : FL) : FL → Prop
  | [] => True
  | p :: r => F.get p.1 = some p.2 ∧ FSub F r

theorem FSub.spec {F : FL} : ∀ {F' : FL}, FSub F F' → ∀ i v, F'.get i = some v → F.get i = some v
  | [], _, i, v, h => by simp [FL.get] at h
  | p :: r, hs, i, v, h => by
    obtain ⟨d, u⟩ := p
    rw [FL.get_cons] at h
    by_cases e : d = i
    · simp only [e, if_true, Option.some.injEq] at h
      subst h; subst e; exact hs.1
    · simp only [e, if_false] at h
      exact FSub.spec hs.2 i v h

/-! ## Posts -/

def mkQ (N R : Act → World → Prop) (E : Nat → Act → World → Prop) : Exit → Act → World → Prop
  | .normal, a, w => N a w
  | .ret, a, w => R a w
  | .exit i, a, w => E i a w
  | _, _, _ => False

/-! ## Operations -/

variable {P : Program}

/-- In every state with this frame and this heap the operation yields v and leaves the world alone. -/
def Yl (P : Program) (F : FL) (H : HL) (o : Oper) (v : Value) : Prop :=
  ∀ (a : Act) (g w : World), FHas a F → Own g w H → (execOp a.eval o).run P w = .ok (.value v) w

/-- It yields something, and leaves some heap: whichever of a family. -/
def Eff (P : Program) (F : FL) (g : World) (H : HL) (o : Oper) (σ : Type) (v : σ → Value) (H' : σ → HL) : Prop :=
  ∀ (a : Act) (w : World), FHas a F → Own g w H → ∃ (s : σ) (w' : World), (execOp a.eval o).run P w = .ok (.value (v s)) w' ∧ Own g w' (H' s)

/-- the same for what yields nothing -/
def Skp (P : Program) (F : FL) (g : World) (H : HL) (o : Oper) (H' : HL) : Prop :=
  ∀ (a : Act) (w : World), FHas a F → Own g w H → ∃ (w' : World), (execOp a.eval o).run P w = .ok .skip w' ∧ Own g w' H'

/-- A call of function f -/
def Cll (P : Program) (F : FL) (H : HL) (o : Oper) (f : FuncId) (args : Array Value) : Prop :=
  ∀ (a : Act) (g w : World), FHas a F → Own g w H → (execOp a.eval o).run P w = .ok (.enter f args) w

/-- what a function gives -/
def Gives (P : Program) (f : FuncId) (args : Array Value) (g : World) (H : HL) (σ : Type) (v : σ → Value) (H' : σ → HL) : Prop :=
  ∀ (w : World), Own g w H → Calls P f args w fun e w' => ∃ s : σ, e = .returned (v s) ∧ Own g w' (H' s)

/-- a function that hands back v and changes nothing that there was -/
def Quiet (P : Program) (f : FuncId) (args : Array Value) (H : HL) (v : Value) : Prop :=
  ∀ (g w : World), Own g w H → Calls P f args w fun e w' => e = .returned v ∧ Keep w w'

theorem Quiet.gives {f : FuncId} {args : Array Value} {g : World} {H H' : HL} {v : Value} (h : Quiet P f args H v) (hs : ∀ w, Own g w H' → Own g w H) :
    Gives P f args g H' Unit (fun _ => v) (fun _ => H') :=
  fun w ho => (h g w (hs w ho)).mono fun _ _ ⟨he, hk⟩ => ⟨(), he, hk _ _ ho⟩

/-! ## Lists of operations -/

def TL (P : Program) (ops : Array Oper) (Q : Exit → Act → World → Prop) (n : Nat) (D : List Deferred) (g : World) (l : List Oper) (F : FL) (H : HL) : Prop :=
  ∀ a w, St n D F g H a w → wpList P ops Q l a w

def TC (P : Program) (Q : Exit → Act → World → Prop) (n : Nat) (D : List Deferred) (g : World) (c : Code) (F : FL) (H : HL) : Prop :=
  ∀ a w, St n D F g H a w → c.wp P Q a w

section
variable {ops : Array Oper} {Q : Exit → Act → World → Prop} {n : Nat} {D : List Deferred} {F : FL} {g : World} {H : HL} {rest : List Oper}

theorem TL.prune {l : List Oper} (F' : FL) (hs : FSub F F') (h : TL P ops Q n D g l F' H) : TL P ops Q n D g l F H :=
  fun a w hst => h a w ⟨hst.size, hst.defers, fun i v hi => hst.frame i v (hs.spec i v hi), hst.own⟩

theorem TC.prune {c : Code} (F' : FL) (hs : FSub F F') (h : TC P Q n D g c F' H) : TC P Q n D g c F H :=
  fun a w hst => h a w ⟨hst.size, hst.defers, fun i v hi => hst.frame i v (hs.spec i v hi), hst.own⟩

theorem TC.heap {c : Code} {H' : HL} (hs : ∀ w, Own g w H → Own g w H') (h : TC P Q n D g c F H') : TC P Q n D g c F H :=
  fun a w hst => h a w (hst.world (hs _ hst.own))

theorem TL.heap {l : List Oper} {H' : HL} (hs : ∀ w, Own g w H → Own g w H') (h : TL P ops Q n D g l F H') : TL P ops Q n D g l F H :=
  fun a w hst => h a w (hst.world (hs _ hst.own))

theorem wanted_none (d : Option Tmp) (op : Op) (ty : TypeId) (pos : String) (aft : Array Edge) (y : Nat → Option Bool) : Region.wanted ⟨d, op, ty, pos, aft, none⟩ y = true := rfl

theorem TL.val {d : Nat} {op : Op} {ty : TypeId} {pos : String} {aft : Array Edge} {v : Value}
    (hy : Yl P F H ⟨some d, op, ty, pos, aft, none⟩ v) (hd : Nat.blt d n = true) (h : TL P ops Q n D g rest ((d, v) :: F) H) :
    TL P ops Q n D g (⟨some d, op, ty, pos, aft, none⟩ :: rest) F H := fun a w hst => by
  refine wpList_plain rfl fun K hK => ?_
  unfold Oper.wp
  rw [hy a g w hst.frame hst.own]
  exact hK _ _ (h _ _ (hst.put hd v))

theorem TL.skp {op : Op} {ty : TypeId} {pos : String} {aft : Array Edge} {H' : HL}
    (hy : Skp P F g H ⟨none, op, ty, pos, aft, none⟩ H') (h : TL P ops Q n D g rest F H') :
    TL P ops Q n D g (⟨none, op, ty, pos, aft, none⟩ :: rest) F H := fun a w hst => by
  refine wpList_plain rfl fun K hK => ?_
  unfold Oper.wp
  obtain ⟨w', hr, ho⟩ := hy a w hst.frame hst.own
  rw [hr]
  exact hK _ _ (h _ _ (hst.world ho))

theorem TL.eff {d : Nat} {op : Op} {ty : TypeId} {pos : String} {aft : Array Edge} {σ : Type} {v : σ → Value} {H' : σ → HL}
    (hy : Eff P F g H ⟨some d, op, ty, pos, aft, none⟩ σ v H') (hd : Nat.blt d n = true) (h : ∀ s, TL P ops Q n D g rest ((d, v s) :: F) (H' s)) :
    TL P ops Q n D g (⟨some d, op, ty, pos, aft, none⟩ :: rest) F H := fun a w hst => by
  refine wpList_plain rfl fun K hK => ?_
  unfold Oper.wp
  obtain ⟨s, w', hr, ho⟩ := hy a w hst.frame hst.own
  rw [hr]
  exact hK _ _ (h s _ _ ((hst.put hd (v s)).world ho))

theorem TL.call {d : Nat} {op : Op} {ty : TypeId} {pos : String} {aft : Array Edge} {f : FuncId} {args : Array Value} {σ : Type} {v : σ → Value} {H' : σ → HL}
    (hy : Cll P F H ⟨some d, op, ty, pos, aft, none⟩ f args) (hd : Nat.blt d n = true) (hc : Gives P f args g H σ v H') (h : ∀ s, TL P ops Q n D g rest ((d, v s) :: F) (H' s)) :
    TL P ops Q n D g (⟨some d, op, ty, pos, aft, none⟩ :: rest) F H := fun a w hst => by
  refine wpList_plain rfl fun K hK => ?_
  unfold Oper.wp
  rw [hy a g w hst.frame hst.own, Oper.upon_enter]
  refine (hc w hst.own).mono fun e w' ⟨s, he, ho⟩ => ?_
  subst he
  exact hK _ _ (h s _ _ ((hst.put hd (v s)).world ho))

theorem TL.quiet {d : Nat} {op : Op} {ty : TypeId} {pos : String} {aft : Array Edge} {f : FuncId} {args : Array Value} {v : Value}
    (hy : Cll P F H ⟨some d, op, ty, pos, aft, none⟩ f args) (hd : Nat.blt d n = true) (hc : Quiet P f args H v) (h : TL P ops Q n D g rest ((d, v) :: F) H) :
    TL P ops Q n D g (⟨some d, op, ty, pos, aft, none⟩ :: rest) F H :=
  TL.call hy hd (hc.gives fun _ h => h) fun _ => h

/-- an operation under a guard that says no -/
theorem TL.no {d : Nat} {op : Op} {ty : TypeId} {pos : String} {aft : Array Edge} {j : Nat} {b c : Bool} {t : Nat} {oj : Oper}
    (hj : ops[j]? = some oj) (ht : oj.dst = some t) (hb : F.get t = some (.bool b)) (hne : (b == c) = false) (hd : Nat.blt d n = true)
    (h : TL P ops Q n D g rest ((d, undef) :: F) H) : TL P ops Q n D g (⟨some d, op, ty, pos, aft, some (j, c)⟩ :: rest) F H := fun a w hst => by
  have hy : yielded ops a.tmps j = some b := by
    have := hst.frame t _ hb
    simp [yielded, hj, ht, this]
  have hw : Region.wanted ⟨some d, op, ty, pos, aft, some (j, c)⟩ (yielded ops a.tmps) = false := by
    simp only [Region.wanted, hy]
    simpa using hne
  refine wpList_step fun K hK => ?_
  rw [hw]
  exact hK _ _ (h _ _ (hst.put hd undef))

/-- an operation under a guard that says yes goes as one without -/
theorem TL.yes {d : Option Nat} {op : Op} {ty : TypeId} {pos : String} {aft : Array Edge} {j : Nat} {c : Bool} {t : Nat} {oj : Oper}
    (hj : ops[j]? = some oj) (ht : oj.dst = some t) (hb : F.get t = some (.bool c))
    (h : TL P ops Q n D g (⟨d, op, ty, pos, aft, none⟩ :: rest) F H) : TL P ops Q n D g (⟨d, op, ty, pos, aft, some (j, c)⟩ :: rest) F H := fun a w hst => by
  have hy : yielded ops a.tmps j = some c := by
    have := hst.frame t _ hb
    simp [yielded, hj, ht, this]
  have hw : Region.wanted ⟨d, op, ty, pos, aft, some (j, c)⟩ (yielded ops a.tmps) = true := by
    simp only [Region.wanted, hy]
    simp
  have h0 := h a w hst
  unfold wpList at h0 ⊢
  rw [wanted_none, if_pos rfl] at h0
  rw [hw, if_pos rfl]
  exact h0

/-! ## Code -/

theorem TL.done {N R : Act → World → Prop} {E : Nat → Act → World → Prop} (h : ∀ a w, St n D F g H a w → N a w) : TL P ops (mkQ N R E) n D g [] F H :=
  fun a w hst => wpList_nil (h a w hst)

theorem TL.next {c : Code} {R : Act → World → Prop} {E : Nat → Act → World → Prop} {Q' : Exit → Act → World → Prop} (h : TC P Q' n D g c F H) :
    TL P ops (mkQ (c.wp P Q') R E) n D g [] F H :=
  fun a w hst => wpList_nil (h a w hst)

theorem TC.region {id : Nat} {l : List Oper} (h : TL P l.toArray Q n D g l F H) : TC P Q n D g (.region id l.toArray false) F H :=
  fun a w hst => wp_region_lit (h a w hst)

theorem then_mkQ {N' N R : Act → World → Prop} {E : Nat → Act → World → Prop} : ∀ e a w, mkQ N' R E e a w → Exit.then N' (mkQ N R E) e a w := by
  intro e a w h
  cases e <;> exact h

theorem TC.seq {x y : Code} {N R : Act → World → Prop} {E : Nat → Act → World → Prop} (h : TC P (mkQ (y.wp P (mkQ N R E)) R E) n D g x F H) : TC P (mkQ N R E) n D g (.seq x y) F H :=
  fun a w hst => wp_seq (wp_mono (h a w hst) then_mkQ)

/-- code, and what the code behind it may take for granted -/
theorem TC.mid {x y : Code} {N R : Act → World → Prop} {E : Nat → Act → World → Prop} (M : Act → World → Prop) (h : TC P (mkQ M R E) n D g x F H) (h' : ∀ a w, M a w → y.wp P (mkQ N R E) a w) :
    TC P (mkQ N R E) n D g (.seq x y) F H :=
  fun a w hst => wp_seq (wp_mono (h a w hst) fun e a w q => by cases e <;> first | exact h' _ _ q | exact q)

theorem TC.skip {N R : Act → World → Prop} {E : Nat → Act → World → Prop} (h : ∀ a w, St n D F g H a w → N a w) : TC P (mkQ N R E) n D g .skip F H :=
  fun a w hst => wp_skip (h a w hst)

theorem TC.skip_next {c : Code} {R : Act → World → Prop} {E : Nat → Act → World → Prop} {Q' : Exit → Act → World → Prop} (h : TC P Q' n D g c F H) :
    TC P (mkQ (c.wp P Q') R E) n D g .skip F H :=
  fun a w hst => wp_skip (h a w hst)

theorem TC.ret {N R : Act → World → Prop} {E : Nat → Act → World → Prop} (h : ∀ a w, St n D F g H a w → R a w) : TC P (mkQ N R E) n D g .ret F H :=
  fun a w hst => wp_ret (h a w hst)

theorem TC.exit {N R : Act → World → Prop} {E : Nat → Act → World → Prop} {i : Nat} (h : ∀ a w, St n D F g H a w → E i a w) : TC P (mkQ N R E) n D g (.exit i) F H :=
  fun a w hst => wp_exit (h a w hst)

theorem TC.exit_next {c : Code} {N R : Act → World → Prop} {E : Nat → Act → World → Prop} {Q' : Exit → Act → World → Prop} {i : Nat} (hE : E i = c.wp P Q') (h : TC P Q' n D g c F H) : TC P (mkQ N R E) n D g (.exit i) F H :=
  fun a w hst => wp_exit (show E i a w by rw [hE]; exact h a w hst)

theorem TC.yes {x : Operand} {t e : Code} (hx : ev F x = some (.bool true)) (h : TC P Q n D g t F H) : TC P Q n D g (.cond x t e) F H :=
  fun a w hst => wp_cond_true (FHas.eval hst.frame hx) (h a w hst)

theorem TC.no {x : Operand} {t e : Code} (hx : ev F x = some (.bool false)) (h : TC P Q n D g e F H) : TC P Q n D g (.cond x t e) F H :=
  fun a w hst => wp_cond_false (FHas.eval hst.frame hx) (h a w hst)

theorem TC.cond {x : Operand} {t e : Code} {b : Bool} (hx : ev F x = some (.bool b)) (h1 : b = true → TC P Q n D g t F H) (h2 : b = false → TC P Q n D g e F H) : TC P Q n D g (.cond x t e) F H :=
  fun a w hst => wp_cond_split (FHas.eval hst.frame hx) (fun hb => h1 hb a w hst) (fun hb => h2 hb a w hst)

/-- a block: its own exit goes on behind it -/
theorem TC.block {id : Nat} {c : Code} {N R : Act → World → Prop} {E : Nat → Act → World → Prop}
    (h : TC P (mkQ N R (fun i => match Nat.beq i id with | true => N | false => E i)) n D g c F H) : TC P (mkQ N R E) n D g (.block id c) F H :=
  fun a w hst => wp_block (wp_mono (h a w hst) fun e a w q => by
    cases e with
    | exit i =>
      simp only [mkQ, Exit.inBlock] at q ⊢
      by_cases hi : i = id
      · subst hi; simp only [Nat.beq_refl] at q; simpa using q
      · have : Nat.beq i id = false := by
          cases hb : Nat.beq i id with
          | false => rfl
          | true => exact absurd (Nat.eq_of_beq_eq_true hb) hi
        simp only [this] at q
        simpa [hi] using q
    | _ => exact q)

/-- a loop: an invariant over a state of its own, with a measure -/
theorem TC.loop {σ : Type} {c : Code} {N R : Act → World → Prop} {E : Nat → Act → World → Prop} (Fi : σ → FL) (Hi : σ → HL) (μ : σ → Nat) (s0 : σ)
    (h0 : ∀ a w, St n D F g H a w → St n D (Fi s0) g (Hi s0) a w)
    (hr : ∀ s, TC P (mkQ (fun a w => ∃ s', μ s' < μ s ∧ St n D (Fi s') g (Hi s') a w) R E) n D g c (Fi s) (Hi s)) : TC P (mkQ N R E) n D g (.loop c) F H := by
  have key : ∀ (k : Nat) (s : σ) (a : Act) (w : World), μ s = k → St n D (Fi s) g (Hi s) a w → ∀ (b : Frame) (kk : List Item) (cs : List Frame),
      ∃ e a' w', mkQ N R E e a' w' ∧ Arrives P (lone (b.at a (.code c :: .inLoop c :: kk)) cs w) b kk cs e a' w' := by
    intro k
    induction k using Nat.strongRecOn with
    | _ k ih =>
      intro s a w hk hst b kk cs
      obtain ⟨e, a₁, w₁, hq, harr⟩ := hr s a w hst b (.inLoop c :: kk) cs
      cases e with
      | normal =>
        obtain ⟨s', hlt, hst'⟩ := hq
        obtain ⟨e₂, a₂, w₂, hq₂, harr₂⟩ := ih (μ s') (hk ▸ hlt) s' a₁ w₁ rfl hst' b kk cs
        exact ⟨e₂, a₂, w₂, hq₂, .of_steps (Steps.trans harr (.one step_inLoop)) harr₂⟩
      | exit id => exact ⟨_, a₁, w₁, (show mkQ N R E (.exit id) a₁ w₁ from hq), .pass (x := .inLoop c) rfl (fun _ _ => .inl (by simp)) harr⟩
      | goto l => exact ⟨_, a₁, w₁, (show mkQ N R E (.goto l) a₁ w₁ from hq), .pass (x := .inLoop c) rfl (fun _ _ => .inl (by simp)) harr⟩
      | ret => exact ⟨_, a₁, w₁, (show mkQ N R E .ret a₁ w₁ from hq), .pass (x := .inLoop c) rfl (fun _ _ => .inl (by simp)) harr⟩
      | panic ch => exact ⟨_, a₁, w₁, (show mkQ N R E (.panic ch) a₁ w₁ from hq), .pass (x := .inLoop c) rfl (fun _ _ => .inl (by simp)) harr⟩
      | outgrown => exact ⟨_, a₁, w₁, (show mkQ N R E .outgrown a₁ w₁ from hq), .pass (x := .inLoop c) rfl (fun _ _ => .inl (by simp)) harr⟩
  intro a w hst b kk cs
  obtain ⟨e, a', w', hq, harr⟩ := key _ s0 a w rfl (h0 a w hst) b kk cs
  exact ⟨e, a', w', hq, .of_steps (.one step_loop) harr⟩

/-- a loop with an invariant: the frame, the heap, a proposition -/
def Inv {σ : Type} (n : Nat) (D : List Deferred) (g : World) (Fi : σ → FL) (Hi : σ → HL) (I : σ → Prop) (μ : σ → Nat) (s : σ) (a : Act) (w : World) : Prop :=
  ∃ s', I s' ∧ μ s' < μ s ∧ St n D (Fi s') g (Hi s') a w

theorem TC.loopI {σ : Type} {c : Code} {N R : Act → World → Prop} {E : Nat → Act → World → Prop} (Fi : σ → FL) (Hi : σ → HL) (I : σ → Prop) (μ : σ → Nat) (s0 : σ)
    (hF : FSub F (Fi s0)) (hH : ∀ w, Own g w H → Own g w (Hi s0)) (hI : I s0)
    (hr : ∀ s, I s → TC P (mkQ (Inv n D g Fi Hi I μ s) R E) n D g c (Fi s) (Hi s)) : TC P (mkQ N R E) n D g (.loop c) F H := by
  refine TC.loop (σ := { s : σ // I s }) (fun s => Fi s.1) (fun s => Hi s.1) (fun s => μ s.1) ⟨s0, hI⟩
    (fun a w hst => ⟨hst.size, hst.defers, fun i v hi => hst.frame i v (hF.spec i v hi), hH w hst.own⟩) fun s a w hst => wp_mono (hr s.1 s.2 a w hst) fun e _ _ q => ?_
  cases e with
  | normal => obtain ⟨s', h1, h2, h3⟩ := q; exact ⟨⟨s', h1⟩, h2, h3⟩
  | _ => exact q

/-- the end of a round: the invariant again -/
theorem Inv.again {σ : Type} {Fi : σ → FL} {Hi : σ → HL} {I : σ → Prop} {μ : σ → Nat} {s : σ} (s' : σ) (hI : I s') (hm : μ s' < μ s) (hs : FSub F (Fi s')) (hH : ∀ w, Own g w H → Own g w (Hi s')) :
    ∀ a w, St n D F g H a w → Inv n D g Fi Hi I μ s a w :=
  fun _ w hst => ⟨s', hI, hm, hst.size, hst.defers, fun i v hi => hst.frame i v (hs.spec i v hi), hH w hst.own⟩
end

/-! ## Functions -/

def argsFL : Nat → List Value → FL
  | _, [] => []
  | k, v :: r => (k, v) :: argsFL (k + 1) r

theorem argsFL_get : ∀ (l : List Value) (k i : Nat) (v : Value), (argsFL k l).get i = some v → k ≤ i ∧ l[i - k]? = some v
  | [], _, _, _, h => by simp [argsFL, FL.get] at h
  | u :: r, k, i, v, h => by
    simp only [argsFL] at h
    rw [FL.get_cons] at h
    by_cases e : k = i
    · subst e; simp only [if_true, Option.some.injEq] at h; subst h; simp
    · simp only [e, if_false] at h
      obtain ⟨h1, h2⟩ := argsFL_get r (k + 1) i v h
      refine ⟨by omega, ?_⟩
      have : i - k = (i - (k + 1)) + 1 := by omega
      rw [this]; simpa using h2

/-- what the end of a body must show -/
def Back (P : Program) (fn : Func) (g : World) (σ : Type) (v : σ → Value) (H' : σ → HL) (a : Act) (w : World) : Prop :=
  ∃ s, a.defers = [] ∧ (results fn a.tmps).run P w = .ok (v s) w ∧ Own g w (H' s)

theorem Gives.enter {f : FuncId} {fn : Func} {c : Code} {args : Array Value} {g : World} {H : HL} {σ : Type} {v : σ → Value} {H' : σ → HL} {n : Nat}
    (hf : P.funcs[f]? = some fn) (hb : fn.body = some c) (hn : fn.ntmps = n) (hs : Nat.ble args.size n = true)
    (h : TC P (mkQ (Back P fn g σ v H') (Back P fn g σ v H') fun _ _ _ => False) n [] g c (argsFL 0 args.toList) H) : Gives P f args g H σ v H' := by
  intro w ho
  have hle : args.size ≤ n := Nat.le_of_ble_eq_true hs
  refine calls_of_wp hf hb (wp_mono (h _ w ⟨?_, rfl, ?_, ho⟩) ?_)
  · simp [hn]; omega
  · intro i u hi
    obtain ⟨_, h2⟩ := argsFL_get _ _ _ _ hi
    have hlt : i < args.size := by
      have := (List.getElem?_eq_some_iff.1 h2).1
      simpa using this
    simp only [Nat.sub_zero, Array.getElem?_toList] at h2
    rw [Array.getElem?_append_left hlt]; exact h2
  · intro e a w' q
    cases e with
    | normal => obtain ⟨s, h1, h2, h3⟩ := q; exact ⟨h1, _, h2, s, rfl, h3⟩
    | ret => obtain ⟨s, h1, h2, h3⟩ := q; exact ⟨h1, _, h2, s, rfl, h3⟩
    | _ => exact q.elim

theorem keys_sublist (f : Nat → Option (Nat × Obj)) (hf : ∀ i p, f i = some p → p.1 = i) : ∀ l : List Nat, ((l.filterMap f).map (·.1)).Sublist l
  | [] => List.Sublist.slnil
  | i :: l => by
    cases h : f i with
    | none => rw [List.filterMap_cons_none h]; exact (keys_sublist f hf l).cons _
    | some p =>
      rw [List.filterMap_cons_some h]
      simp only [List.map_cons]
      rw [hf i p h]
      exact (keys_sublist f hf l).cons_cons _

/-- a quiet function, out of what it gives in every heap that holds what it reads -/
theorem Quiet.of_gives {f : FuncId} {args : Array Value} {H : HL} {v : Value} (h : ∀ g Fr, Gives P f args g (H ++ Fr) Unit (fun _ => v) (fun _ => H ++ Fr)) : Quiet P f args H v := by
  intro g w ho
  -- all the other blocks of the world
  let rest : HL := (List.range w.heap.size).filterMap fun i => if i ∈ H.map (·.1) then none else (w.heap[i]?).map fun o => (i, o)
  have hrest : ∀ p ∈ rest, p.1 ∉ H.map (·.1) ∧ w.heap[p.1]? = some p.2 := by
    intro p hp
    obtain ⟨i, _, hi⟩ := List.mem_filterMap.1 hp
    split at hi
    · cases hi
    · rename_i hni
      obtain ⟨o, ho', rfl⟩ := Option.map_eq_some_iff.1 hi
      exact ⟨hni, ho'⟩
  have hkeys : (rest.map (·.1)).Nodup := by
    refine List.Nodup.sublist (keys_sublist _ ?_ _) List.nodup_range
    intro i p hi
    split at hi
    · cases hi
    · obtain ⟨o, _, rfl⟩ := Option.map_eq_some_iff.1 hi
      rfl
  have hown : Own w w (H ++ rest) := by
    refine ⟨?_, ?_, rfl, rfl⟩
    · rw [List.map_append, List.nodup_append]
      refine ⟨ho.nodup, hkeys, fun x hx y hy e => ?_⟩
      obtain ⟨p, hp, rfl⟩ := List.mem_map.1 hy
      exact (hrest p hp).1 (e ▸ hx)
    · intro p hp
      rcases List.mem_append.1 hp with hp | hp
      · exact ho.mem p hp
      · exact (hrest p hp).2
  refine (h w rest w hown).mono fun e w' ⟨_, he, hw⟩ => ⟨he, fun g' H' hH' => ⟨hH'.nodup, fun p hp => ?_, hw.os.trans hH'.os, hw.out.trans hH'.out⟩⟩
  have hp' := hH'.mem p hp
  by_cases hm : p.1 ∈ H.map (·.1)
  · obtain ⟨q, hq, hqe⟩ := List.mem_map.1 hm
    have h1 := ho.mem q hq
    have h2 := hw.mem q (List.mem_append_left _ hq)
    rw [hqe] at h1 h2
    rw [h2]; rw [hp'] at h1; exact h1.symm
  · have hlt : p.1 < w.heap.size := (Array.getElem?_eq_some_iff.1 hp').1
    have : (p.1, p.2) ∈ rest := List.mem_filterMap.2 ⟨p.1, List.mem_range.2 hlt, by simp [hm, hp']⟩
    exact hw.mem p (List.mem_append_right _ this)

section
variable {F : FL} {g : World} {H : HL} {n : Nat} {fn : Func} {σ : Type} {v : σ → Value} {H' : σ → HL}

theorem TC.back0 {N : Act → World → Prop} {E : Nat → Act → World → Prop} (s : σ) (hres : fn.results = #[]) (hv : v s = .tuple #[]) (hH : ∀ w, Own g w H → Own g w (H' s)) :
    TC P (mkQ N (Back P fn g σ v H') E) n [] g .ret F H :=
  TC.ret fun a w hst => ⟨s, hst.defers, by rw [results_none hres, hv], hH w hst.own⟩

theorem Back.end0 (s : σ) (hres : fn.results = #[]) (hv : v s = .tuple #[]) (hH : ∀ w, Own g w H → Own g w (H' s)) : ∀ a w, St n [] F g H a w → Back P fn g σ v H' a w :=
  fun a w hst => ⟨s, hst.defers, by rw [results_none hres, hv], hH w hst.own⟩

theorem TC.back1 {N : Act → World → Prop} {E : Nat → Act → World → Prop} {t : Nat} (s : σ) (hres : fn.results = #[.tmp t]) (hv : F.get t = some (v s)) (hH : ∀ w, Own g w H → Own g w (H' s)) :
    TC P (mkQ N (Back P fn g σ v H') E) n [] g .ret F H :=
  TC.ret fun a w hst => ⟨s, hst.defers, by rw [results_tmp hres]; have := hst.frame t _ hv; simp [this], hH w hst.own⟩

theorem TC.back2 {N : Act → World → Prop} {E : Nat → Act → World → Prop} {t u : Nat} {x y : Value} (s : σ) (hres : fn.results = #[.tmp t, .tmp u]) (hx : F.get t = some x) (hy : F.get u = some y) (hv : v s = .tuple #[x, y])
    (hH : ∀ w, Own g w H → Own g w (H' s)) : TC P (mkQ N (Back P fn g σ v H') E) n [] g .ret F H :=
  TC.ret fun a w hst => ⟨s, hst.defers, by rw [results_tmp2 hres, hv]; have h1 := hst.frame t _ hx; have h2 := hst.frame u _ hy; simp [h1, h2], hH w hst.own⟩

theorem TC.back3 {N : Act → World → Prop} {E : Nat → Act → World → Prop} {t u r : Nat} {x y z : Value} (s : σ) (hres : fn.results = #[.tmp t, .tmp u, .tmp r]) (hx : F.get t = some x) (hy : F.get u = some y) (hz : F.get r = some z)
    (hv : v s = .tuple #[x, y, z]) (hH : ∀ w, Own g w H → Own g w (H' s)) : TC P (mkQ N (Back P fn g σ v H') E) n [] g .ret F H :=
  TC.ret fun a w hst => ⟨s, hst.defers, by rw [results_tmp3 hres, hv]; have h1 := hst.frame t _ hx; have h2 := hst.frame u _ hy; have h3 := hst.frame r _ hz; simp [h1, h2, h3], hH w hst.own⟩
end

/-! ## Bringing blocks to the front -/

inductive Pull : HL → Nat × Obj → HL → Prop
  | head {p : Nat × Obj} {H : HL} : Pull (p :: H) p H
  | tail {q p : Nat × Obj} {H H' : HL} : Pull H p H' → Pull (q :: H) p (q :: H')

theorem Pull.perm {H : HL} {p : Nat × Obj} {H' : HL} (h : Pull H p H') : H.Perm (p :: H') := by
  induction h with
  | head => exact List.Perm.refl _
  | tail _ ih => exact (ih.cons _).trans (List.Perm.swap _ _ _)

inductive Pulls : HL → HL → Prop
  | nil {H : HL} : Pulls H H
  | cons {H : HL} {p : Nat × Obj} {H1 L : HL} : Pull H p H1 → Pulls H1 L → Pulls H (p :: L)

theorem Pulls.perm {H L : HL} (h : Pulls H L) : H.Perm L := by
  induction h with
  | nil => exact List.Perm.refl _
  | cons h1 _ ih => exact h1.perm.trans (ih.cons _)

theorem Pulls.own {H L : HL} (h : Pulls H L) {g : World} : ∀ w, Own g w H → Own g w L := fun _ ho => ho.perm h.perm
theorem Pulls.back {H L : HL} (h : Pulls H L) {g : World} : ∀ w, Own g w L → Own g w H := fun _ ho => ho.perm h.perm.symm

/-- the heap is these blocks, and some others -/
theorem Pulls.front {H p R : HL} (h : Pulls H (p ++ R)) {g : World} : ∀ w, Own g w H → Own g w p := fun _ ho => (ho.perm h.perm).sub (List.sublist_append_left _ _)

theorem Gives.pull {f : FuncId} {args : Array Value} {g : World} {H L : HL} {σ : Type} {v : σ → Value} {H' : σ → HL} (hp : Pulls H L) (h : Gives P f args g L σ v H') : Gives P f args g H σ v H' :=
  fun w ho => h w (hp.own w ho)

theorem Quiet.pull {f : FuncId} {args : Array Value} {H L R : HL} {v : Value} (hp : Pulls H (L ++ R)) (h : Quiet P f args L v) : Quiet P f args H v :=
  fun g w ho => h g w (hp.front w ho)

theorem Quiet.none {f : FuncId} {args : Array Value} {H : HL} {v : Value} (h : Quiet P f args [] v) : Quiet P f args H v :=
  fun g w ho => h g w (ho.sub (List.nil_sublist _))

theorem Own.nil {g w : World} {H : HL} (h : Own g w H) : Own g w [] := h.sub (List.nil_sublist _)
end Go.Proofs.YtlhncphipfkkjaaGreatDoor

/- Laws on single operations, over the lists of Own: arithmetic, comparisons, conversions, strings. No function of the program is looked at here. -/
namespace Go.Proofs.YtlhncphipfkkjaaGreatDoor
open Go

abbrev vS (l : List UInt8) : Value := .string ⟨l.toArray⟩

/-! ## Wraps -/
theorem wrap_i64 (n : Int) : IntKind.i64.wrap n = if (9223372036854775808 : Int) ≤ n % 18446744073709551616 then n % 18446744073709551616 - 18446744073709551616 else n % 18446744073709551616 := by
  simp [IntKind.wrap, IntKind.bits, IntKind.signed]
theorem wrap_i32 (n : Int) : IntKind.i32.wrap n = if (2147483648 : Int) ≤ n % 4294967296 then n % 4294967296 - 4294967296 else n % 4294967296 := by
  simp [IntKind.wrap, IntKind.bits, IntKind.signed]
theorem wI {n : Int} (h : -9223372036854775808 ≤ n ∧ n ≤ 9223372036854775807) : IntKind.i64.wrap n = n := by
  rw [wrap_i64]; split <;> omega
theorem wI32 {n : Int} (h : -2147483648 ≤ n ∧ n ≤ 2147483647) : IntKind.i32.wrap n = n := by
  rw [wrap_i32]; split <;> omega

theorem wrap_u8 (n : Int) : IntKind.u8.wrap n = n % 256 := by simp [IntKind.wrap, IntKind.bits, IntKind.signed]
theorem wrap_u16 (n : Int) : IntKind.u16.wrap n = n % 65536 := by simp [IntKind.wrap, IntKind.bits, IntKind.signed]
theorem wrap_u32 (n : Int) : IntKind.u32.wrap n = n % 4294967296 := by simp [IntKind.wrap, IntKind.bits, IntKind.signed]
theorem wrap_u64 (n : Int) : IntKind.u64.wrap n = n % 18446744073709551616 := by simp [IntKind.wrap, IntKind.bits, IntKind.signed]

/-- an int as a byte, as a word -/
def toU8 (n : Int) : UInt8 := UInt8.ofNat (n % 256).toNat
def toU16 (n : Int) : UInt16 := UInt16.ofNat (n % 65536).toNat
def toU32 (n : Int) : UInt32 := UInt32.ofNat (n % 4294967296).toNat
def toU64 (n : Int) : UInt64 := UInt64.ofNat (n % 18446744073709551616).toNat

theorem w8 (n : Int) : IntKind.u8.wrap n = ((toU8 n).toNat : Int) := by
  rw [wrap_u8, toU8]; simp only [UInt8.toNat_ofNat']; omega
theorem w16 (n : Int) : IntKind.u16.wrap n = ((toU16 n).toNat : Int) := by
  rw [wrap_u16, toU16]; simp only [UInt16.toNat_ofNat']; omega
theorem w32 (n : Int) : IntKind.u32.wrap n = ((toU32 n).toNat : Int) := by
  rw [wrap_u32, toU32]; simp only [UInt32.toNat_ofNat']; omega
theorem w64 (n : Int) : IntKind.u64.wrap n = ((toU64 n).toNat : Int) := by
  rw [wrap_u64, toU64]; simp only [UInt64.toNat_ofNat']; omega

theorem w32_add (a b : UInt32) : IntKind.u32.wrap (a.toNat + b.toNat) = ((a + b).toNat : Int) := by
  rw [wrap_u32, UInt32.toNat_add]; omega
theorem w64_add (a b : UInt64) : IntKind.u64.wrap (a.toNat + b.toNat) = ((a + b).toNat : Int) := by
  rw [wrap_u64, UInt64.toNat_add]; omega
theorem w64_mul (a b : UInt64) : IntKind.u64.wrap (a.toNat * b.toNat) = ((a * b).toNat : Int) := by
  rw [wrap_u64, UInt64.toNat_mul, Int.natCast_emod, Int.natCast_mul]; rfl
theorem w16_add (a b : UInt16) : IntKind.u16.wrap (a.toNat + b.toNat) = ((a + b).toNat : Int) := by
  rw [wrap_u16, UInt16.toNat_add]; omega
theorem w8_add (a b : UInt8) : IntKind.u8.wrap (a.toNat + b.toNat) = ((a + b).toNat : Int) := by
  rw [wrap_u8, UInt8.toNat_add]; omega
theorem w8_sub (a b : UInt8) : IntKind.u8.wrap (a.toNat - b.toNat) = ((a - b).toNat : Int) := by
  rw [wrap_u8, UInt8.toNat_sub]; have := a.toNat_lt; have := b.toNat_lt; omega
theorem wI_u8 (a : UInt8) : IntKind.i64.wrap a.toNat = a.toNat := wI (by have := a.toNat_lt; omega)
theorem wI_u16 (a : UInt16) : IntKind.i64.wrap a.toNat = a.toNat := wI (by have := a.toNat_lt; omega)
theorem wI_u32 (a : UInt32) : IntKind.i64.wrap a.toNat = a.toNat := wI (by have := a.toNat_lt; omega)
theorem w32_u8 (a : UInt8) : IntKind.u32.wrap a.toNat = (a.toUInt32.toNat : Int) := by
  rw [wrap_u32]; simp; have := a.toNat_lt; omega
theorem w64_u8 (a : UInt8) : IntKind.u64.wrap a.toNat = (a.toUInt64.toNat : Int) := by
  rw [wrap_u64]; simp; have := a.toNat_lt; omega
theorem w16_u8 (a : UInt8) : IntKind.u16.wrap a.toNat = (a.toUInt16.toNat : Int) := by
  rw [wrap_u16]; simp; have := a.toNat_lt; omega
theorem w8_u16 (a : UInt16) : IntKind.u8.wrap a.toNat = (a.toUInt8.toNat : Int) := by
  rw [wrap_u8]; simp
theorem w8_u32 (a : UInt32) : IntKind.u8.wrap a.toNat = (a.toUInt8.toNat : Int) := by
  rw [wrap_u8]; simp
theorem w8_u64 (a : UInt64) : IntKind.u8.wrap a.toNat = (a.toUInt8.toNat : Int) := by
  rw [wrap_u8]; simp
theorem w32_u64 (a : UInt64) : IntKind.u32.wrap a.toNat = (a.toUInt32.toNat : Int) := by
  rw [wrap_u32]; simp
theorem wI32_u32 (a : UInt32) (h : a.toNat < 2147483648) : IntKind.i32.wrap a.toNat = a.toNat := wI32 (by omega)

/-! ## Bits -/
theorem bits_u32 (a : UInt32) : BitVec.ofInt 32 (a.toNat : Int) = a.toBitVec := by
  rw [BitVec.ofInt_natCast]; simp
theorem bits_u8 (a : UInt8) : BitVec.ofInt 8 (a.toNat : Int) = a.toBitVec := by
  rw [BitVec.ofInt_natCast]; simp
theorem bits_u16 (a : UInt16) : BitVec.ofInt 16 (a.toNat : Int) = a.toBitVec := by
  rw [BitVec.ofInt_natCast]; simp
theorem bits_u64 (a : UInt64) : BitVec.ofInt 64 (a.toNat : Int) = a.toBitVec := by
  rw [BitVec.ofInt_natCast]; simp

variable {P : Program} {F : FL} {g : World} {H : HL} {d : Option Nat} {ty : TypeId} {pos : String} {aft : Array Edge} {gd : Option (Nat × Bool)}

/-! ## Moves -/
theorem Yl.move {x : Operand} {v : Value} (hx : ev F x = some v) : Yl P F H ⟨d, .move x, ty, pos, aft, gd⟩ v := fun a g w hf _ => by
  simp [execOp, hf.eval hx]
theorem Yl.assign {x : Operand} {v : Value} (hx : ev F x = some v) : Yl P F H ⟨d, .assign x, ty, pos, aft, gd⟩ v := fun a g w hf _ => by
  simp [execOp, hf.eval hx]
theorem Yl.pick {c x y : Operand} {b : Bool} {u v : Value} (hc : ev F c = some (.bool b)) (hx : ev F x = some u) (hy : ev F y = some v) :
    Yl P F H ⟨d, .pick c x y, ty, pos, aft, gd⟩ (if b then u else v) := fun a g w hf _ => by
  cases b <;> simp [execOp, hf.eval hc, hf.eval hx, hf.eval hy, asBool]
theorem Yl.pickT {c x y : Operand} {u : Value} (hc : ev F c = some (.bool true)) (hx : ev F x = some u) :
    Yl P F H ⟨d, .pick c x y, ty, pos, aft, gd⟩ u := fun a g w hf _ => by
  simp [execOp, hf.eval hc, hf.eval hx, asBool]
theorem Yl.pickF {c x y : Operand} {v : Value} (hc : ev F c = some (.bool false)) (hy : ev F y = some v) :
    Yl P F H ⟨d, .pick c x y, ty, pos, aft, gd⟩ v := fun a g w hf _ => by
  simp [execOp, hf.eval hc, hf.eval hy, asBool]
theorem Yl.extract {x : Operand} {vs : Array Value} {i : Nat} {v : Value} (hx : ev F x = some (.tuple vs)) (hv : vs[i]? = some v) :
    Yl P F H ⟨d, .extract x i, ty, pos, aft, gd⟩ v := fun a g w hf _ => by
  simp [execOp, hf.eval hx, Instr.extract, hv]
theorem Yl.nilCheckP {x : Operand} {a : Addr} (hx : ev F x = some (.pointer (some a))) : Yl P F H ⟨d, .nilCheck x, ty, pos, aft, gd⟩ (.pointer (some a)) := fun _ g w hf _ => by
  simp [execOp, hf.eval hx]
theorem Yl.nilCheckI {x : Operand} {t : TypeId} {u : Value} (hx : ev F x = some (.iface t u)) : Yl P F H ⟨d, .nilCheck x, ty, pos, aft, gd⟩ (.iface t u) := fun _ g w hf _ => by
  simp [execOp, hf.eval hx]

/-! ## Integers -/
section
variable {t t' : TypeId} {x y : Operand} {k : IntKind} {m n r : Int}

theorem Yl.add (hx : ev F x = some (.int k m)) (hy : ev F y = some (.int k n)) (hw : k.wrap (m + n) = r) : Yl P F H ⟨d, .binOp .add t x y t', ty, pos, aft, gd⟩ (.int k r) := fun a g w hf _ => by
  simp [execOp, hf.eval hx, hf.eval hy, eqGuard, binOp, Op.intArith, hw]
theorem Yl.sub (hx : ev F x = some (.int k m)) (hy : ev F y = some (.int k n)) (hw : k.wrap (m - n) = r) : Yl P F H ⟨d, .binOp .sub t x y t', ty, pos, aft, gd⟩ (.int k r) := fun a g w hf _ => by
  simp [execOp, hf.eval hx, hf.eval hy, eqGuard, binOp, Op.intArith, hw]
theorem Yl.mul (hx : ev F x = some (.int k m)) (hy : ev F y = some (.int k n)) (hw : k.wrap (m * n) = r) : Yl P F H ⟨d, .binOp .mul t x y t', ty, pos, aft, gd⟩ (.int k r) := fun a g w hf _ => by
  simp [execOp, hf.eval hx, hf.eval hy, eqGuard, binOp, Op.intArith, hw]
theorem Yl.neg (hx : ev F x = some (.int k m)) (hw : k.wrap (0 - m) = r) : Yl P F H ⟨d, .unOp .neg t x, ty, pos, aft, gd⟩ (.int k r) := fun a g w hf _ => by
  simp only [Int.zero_sub] at hw
  simp [execOp, hf.eval hx, Op.unary, Op.intArith, hw]
theorem Yl.not {b : Bool} (hx : ev F x = some (.bool b)) : Yl P F H ⟨d, .unOp .not t x, ty, pos, aft, gd⟩ (.bool (!b)) := fun a g w hf _ => by
  simp [execOp, hf.eval hx, Op.unary]
/-- '/' and '%' of what is not negative by what is positive -/
theorem Yl.quo (hx : ev F x = some (.int k m)) (hy : ev F y = some (.int k n)) (hm : 0 ≤ m) (hn : 0 < n) (hw : k.wrap (m / n) = r) : Yl P F H ⟨d, .binOp .quo t x y t', ty, pos, aft, gd⟩ (.int k r) := fun a g w hf _ => by
  have h0 : n ≠ 0 := by omega
  have : m.tdiv n = m / n := Int.tdiv_eq_ediv_of_nonneg hm
  simp [execOp, hf.eval hx, hf.eval hy, eqGuard, binOp, Op.intDiv, h0, this, hw]
theorem Yl.rem (hx : ev F x = some (.int k m)) (hy : ev F y = some (.int k n)) (hm : 0 ≤ m) (hn : 0 < n) (hw : m % n = r) : Yl P F H ⟨d, .binOp .rem t x y t', ty, pos, aft, gd⟩ (.int k r) := fun a g w hf _ => by
  have h0 : n ≠ 0 := by omega
  have : m.tmod n = m % n := Int.tmod_eq_emod_of_nonneg hm
  simp [execOp, hf.eval hx, hf.eval hy, eqGuard, binOp, Op.intDiv, h0, this, hw]

/-- comparisons: 'b' is what it comes to -/
theorem Yl.eql {b : Bool} (hx : ev F x = some (.int k m)) (hy : ev F y = some (.int k n)) (hb : decide (m = n) = b) : Yl P F H ⟨d, .binOp .eql t x y t', ty, pos, aft, gd⟩ (.bool b) := fun a g w hf _ => by
  subst hb
  simp [execOp, hf.eval hx, hf.eval hy, eqGuard, binOp, Op.intCmp]
  exact (Bool.beq_eq_decide_eq m n)
theorem Yl.neq {b : Bool} (hx : ev F x = some (.int k m)) (hy : ev F y = some (.int k n)) (hb : decide (m ≠ n) = b) : Yl P F H ⟨d, .binOp .neq t x y t', ty, pos, aft, gd⟩ (.bool b) := fun a g w hf _ => by
  subst hb
  simp [execOp, hf.eval hx, hf.eval hy, eqGuard, binOp, Op.intCmp]
  rw [bne, Bool.beq_eq_decide_eq]
theorem Yl.lss {b : Bool} (hx : ev F x = some (.int k m)) (hy : ev F y = some (.int k n)) (hb : decide (m < n) = b) : Yl P F H ⟨d, .binOp .lss t x y t', ty, pos, aft, gd⟩ (.bool b) := fun a g w hf _ => by
  subst hb
  simp [execOp, hf.eval hx, hf.eval hy, eqGuard, binOp, Op.intCmp]
theorem Yl.leq {b : Bool} (hx : ev F x = some (.int k m)) (hy : ev F y = some (.int k n)) (hb : decide (m ≤ n) = b) : Yl P F H ⟨d, .binOp .leq t x y t', ty, pos, aft, gd⟩ (.bool b) := fun a g w hf _ => by
  subst hb
  simp [execOp, hf.eval hx, hf.eval hy, eqGuard, binOp, Op.intCmp]
theorem Yl.gtr {b : Bool} (hx : ev F x = some (.int k m)) (hy : ev F y = some (.int k n)) (hb : decide (n < m) = b) : Yl P F H ⟨d, .binOp .gtr t x y t', ty, pos, aft, gd⟩ (.bool b) := fun a g w hf _ => by
  subst hb
  simp [execOp, hf.eval hx, hf.eval hy, eqGuard, binOp, Op.intCmp]
theorem Yl.geq {b : Bool} (hx : ev F x = some (.int k m)) (hy : ev F y = some (.int k n)) (hb : decide (n ≤ m) = b) : Yl P F H ⟨d, .binOp .geq t x y t', ty, pos, aft, gd⟩ (.bool b) := fun a g w hf _ => by
  subst hb
  simp [execOp, hf.eval hx, hf.eval hy, eqGuard, binOp, Op.intCmp]
theorem Yl.eqlB {a b : Bool} (hu : P.underlying t = some .bool) (hx : ev F x = some (.bool a)) (hy : ev F y = some (.bool b)) : Yl P F H ⟨d, .binOp .eql t x y t', ty, pos, aft, gd⟩ (.bool (a == b)) := fun _ g w hf _ => by
  have he : (Op.equalIn (9999 + 1) t (.bool a) (.bool b)).run P w = .ok (a == b) w := by unfold Op.equalIn; simp [run_underlying hu]
  have he' : (Op.equal t (.bool a) (.bool b)).run P w = .ok (a == b) w := he
  simp [execOp, hf.eval hx, hf.eval hy, eqGuard, binOp, he']

theorem Yl.conv {src dst : TypeId} {ds : TypeDesc} {j : IntKind} (hs : P.underlying src = some ds) (hd : P.underlying dst = some (.int k)) (hx : ev F x = some (.int j m)) (hw : k.wrap m = r) :
    Yl P F H ⟨d, .convert src dst x, ty, pos, aft, gd⟩ (.int k r) := fun a g w hf _ => by
  simp [execOp, hf.eval hx, convert, run_underlying hs, run_underlying hd, Conv.intToInt, hw]

/-! shifts, bits of words -/
def shl32 (a : UInt32) (n : Nat) : UInt32 := ⟨a.toBitVec <<< n⟩
def shr32 (a : UInt32) (n : Nat) : UInt32 := ⟨a.toBitVec >>> n⟩
def shr16 (a : UInt16) (n : Nat) : UInt16 := ⟨a.toBitVec >>> n⟩
def shl16 (a : UInt16) (n : Nat) : UInt16 := ⟨a.toBitVec <<< n⟩
def shr64 (a : UInt64) (n : Nat) : UInt64 := ⟨a.toBitVec >>> n⟩
def shl64 (a : UInt64) (n : Nat) : UInt64 := ⟨a.toBitVec <<< n⟩
def shr8 (a : UInt8) (n : Nat) : UInt8 := ⟨a.toBitVec >>> n⟩

theorem pow_min_shr {w : Nat} (b : BitVec w) (n : Nat) : (b.toNat : Int).fdiv (2 ^ (min n w)) = ((b >>> n).toNat : Int) := by
  rw [Int.fdiv_eq_ediv_of_nonneg _ (Int.le_of_lt (Int.pow_pos (by decide)))]
  simp only [BitVec.toNat_ushiftRight, Nat.shiftRight_eq_div_pow]
  by_cases h : n ≤ w
  · rw [Nat.min_eq_left h]; push_cast; rfl
  · rw [Nat.min_eq_right (by omega)]
    have h1 : b.toNat < 2 ^ w := b.isLt
    have h2 : b.toNat < 2 ^ n := Nat.lt_of_lt_of_le h1 (Nat.pow_le_pow_right (by omega) (by omega))
    rw [Nat.div_eq_of_lt h2]
    have : ((b.toNat : Int) / (2 ^ w : Int)) = ((b.toNat / 2 ^ w : Nat) : Int) := by push_cast; rfl
    rw [this, Nat.div_eq_of_lt h1]

theorem pow_min_shl {w : Nat} (b : BitVec w) (n : Nat) : ((b.toNat : Int) * 2 ^ (min n w)) % (2 ^ w : Int) = ((b <<< n).toNat : Int) := by
  rw [BitVec.toNat_shiftLeft, Nat.shiftLeft_eq]
  have e : ((b.toNat : Int) * 2 ^ (min n w)) % (2 ^ w : Int) = ((b.toNat * 2 ^ (min n w) % 2 ^ w : Nat) : Int) := by
    rw [Int.natCast_emod, Int.natCast_mul, Int.natCast_pow, Int.natCast_pow]; rfl
  rw [e]
  by_cases h : n ≤ w
  · rw [Nat.min_eq_left h]
  · rw [Nat.min_eq_right (by omega), Nat.mul_mod_left]
    have : 2 ^ n = 2 ^ w * 2 ^ (n - w) := by rw [← Nat.pow_add]; congr 1; omega
    rw [this, ← Nat.mul_assoc, Nat.mul_right_comm, Nat.mul_mod_left]

theorem Yl.shr8 {a : UInt8} {j : IntKind} {c : Nat} (hx : ev F x = some (.int .u8 (a.toNat : Int))) (hy : ev F y = some (.int j (c : Int))) :
    Yl P F H ⟨d, .binOp .shr t x y t', ty, pos, aft, gd⟩ (.int .u8 (shr8 a c).toNat) := fun _ g w hf _ => by
  have h0 : ¬ ((c : Int) < 0) := by omega
  have := pow_min_shr a.toBitVec c
  simp [execOp, hf.eval hx, hf.eval hy, eqGuard, binOp, Op.shift, h0, IntKind.bits]
  exact this

theorem Yl.and8 {a b : UInt8} (hx : ev F x = some (.int .u8 (a.toNat : Int))) (hy : ev F y = some (.int .u8 (b.toNat : Int))) :
    Yl P F H ⟨d, .binOp .and t x y t', ty, pos, aft, gd⟩ (.int .u8 (a &&& b).toNat) := fun _ g w hf _ => by
  have e : (BitVec.ofInt IntKind.u8.bits (a.toNat : Int) &&& BitVec.ofInt IntKind.u8.bits (b.toNat : Int)).toNat = (a &&& b).toNat := by
    show (BitVec.ofInt 8 (a.toNat : Int) &&& BitVec.ofInt 8 (b.toNat : Int)).toNat = _
    rw [bits_u8, bits_u8]; rfl
  have h1 := (a &&& b).toNat_lt
  have hm : (((a &&& b).toNat : Nat) : Int) % 256 = ((a &&& b).toNat : Int) := Int.emod_eq_of_lt (by omega) (by omega)
  simp only [execOp, hf.eval hx, hf.eval hy, eqGuard, binOp, Op.intBits, e, wrap_u8, hm]
  rfl

theorem Yl.or8 {a b : UInt8} (hx : ev F x = some (.int .u8 (a.toNat : Int))) (hy : ev F y = some (.int .u8 (b.toNat : Int))) :
    Yl P F H ⟨d, .binOp .or t x y t', ty, pos, aft, gd⟩ (.int .u8 (a ||| b).toNat) := fun _ g w hf _ => by
  have e : (BitVec.ofInt IntKind.u8.bits (a.toNat : Int) ||| BitVec.ofInt IntKind.u8.bits (b.toNat : Int)).toNat = (a ||| b).toNat := by
    show (BitVec.ofInt 8 (a.toNat : Int) ||| BitVec.ofInt 8 (b.toNat : Int)).toNat = _
    rw [bits_u8, bits_u8]; rfl
  have h1 := (a ||| b).toNat_lt
  have hm : (((a ||| b).toNat : Nat) : Int) % 256 = ((a ||| b).toNat : Int) := Int.emod_eq_of_lt (by omega) (by omega)
  simp only [execOp, hf.eval hx, hf.eval hy, eqGuard, binOp, Op.intBits, e, wrap_u8, hm]
  rfl

theorem Yl.xor8 {a b : UInt8} (hx : ev F x = some (.int .u8 (a.toNat : Int))) (hy : ev F y = some (.int .u8 (b.toNat : Int))) :
    Yl P F H ⟨d, .binOp .xor t x y t', ty, pos, aft, gd⟩ (.int .u8 (a ^^^ b).toNat) := fun _ g w hf _ => by
  have e : (BitVec.ofInt IntKind.u8.bits (a.toNat : Int) ^^^ BitVec.ofInt IntKind.u8.bits (b.toNat : Int)).toNat = (a ^^^ b).toNat := by
    show (BitVec.ofInt 8 (a.toNat : Int) ^^^ BitVec.ofInt 8 (b.toNat : Int)).toNat = _
    rw [bits_u8, bits_u8]; rfl
  have h1 := (a ^^^ b).toNat_lt
  have hm : (((a ^^^ b).toNat : Nat) : Int) % 256 = ((a ^^^ b).toNat : Int) := Int.emod_eq_of_lt (by omega) (by omega)
  simp only [execOp, hf.eval hx, hf.eval hy, eqGuard, binOp, Op.intBits, e, wrap_u8, hm]
  rfl

theorem Yl.not8 {a : UInt8} (hx : ev F x = some (.int .u8 (a.toNat : Int))) :
    Yl P F H ⟨d, .unOp .xor t x, ty, pos, aft, gd⟩ (.int .u8 (~~~a).toNat) := fun _ g w hf _ => by
  have e : (BitVec.ofInt IntKind.u8.bits (IntKind.u8.max) ^^^ BitVec.ofInt IntKind.u8.bits (a.toNat : Int)).toNat = (~~~a).toNat := by
    show (BitVec.ofInt 8 255 ^^^ BitVec.ofInt 8 (a.toNat : Int)).toNat = _
    rw [bits_u8, show BitVec.ofInt 8 255 = BitVec.allOnes 8 by decide, BitVec.allOnes_xor]; rfl
  have h1 := (~~~a).toNat_lt
  have hm : (((~~~a).toNat : Nat) : Int) % 256 = ((~~~a).toNat : Int) := Int.emod_eq_of_lt (by omega) (by omega)
  simp only [execOp, hf.eval hx, Op.unary, IntKind.signed, Bool.false_eq_true, if_false, Op.intBits, e, wrap_u8, hm]
  rfl

theorem Yl.eql8 {a b : UInt8} {r : Bool} (hx : ev F x = some (.int .u8 (a.toNat : Int))) (hy : ev F y = some (.int .u8 (b.toNat : Int))) (hr : decide (a = b) = r) :
    Yl P F H ⟨d, .binOp .eql t x y t', ty, pos, aft, gd⟩ (.bool r) :=
  Yl.eql hx hy (by rw [← hr]; exact decide_eq_decide.2 ⟨fun h => UInt8.toNat_inj.1 (by omega), fun h => by rw [h]⟩)
theorem Yl.neq8 {a b : UInt8} {r : Bool} (hx : ev F x = some (.int .u8 (a.toNat : Int))) (hy : ev F y = some (.int .u8 (b.toNat : Int))) (hr : decide (a ≠ b) = r) :
    Yl P F H ⟨d, .binOp .neq t x y t', ty, pos, aft, gd⟩ (.bool r) :=
  Yl.neq hx hy (by rw [← hr]; exact decide_eq_decide.2 ⟨fun h e => h (by rw [e]), fun h e => h (UInt8.toNat_inj.1 (by omega))⟩)

theorem Yl.shr16 {a : UInt16} {j : IntKind} {c : Nat} (hx : ev F x = some (.int .u16 (a.toNat : Int))) (hy : ev F y = some (.int j (c : Int))) :
    Yl P F H ⟨d, .binOp .shr t x y t', ty, pos, aft, gd⟩ (.int .u16 (shr16 a c).toNat) := fun _ g w hf _ => by
  have h0 : ¬ ((c : Int) < 0) := by omega
  have := pow_min_shr a.toBitVec c
  simp [execOp, hf.eval hx, hf.eval hy, eqGuard, binOp, Op.shift, h0, IntKind.bits]
  exact this

theorem Yl.shl16 {a : UInt16} {j : IntKind} {c : Nat} (hx : ev F x = some (.int .u16 (a.toNat : Int))) (hy : ev F y = some (.int j (c : Int))) :
    Yl P F H ⟨d, .binOp .shl t x y t', ty, pos, aft, gd⟩ (.int .u16 (shl16 a c).toNat) := fun _ g w hf _ => by
  have h0 : ¬ ((c : Int) < 0) := by omega
  have := pow_min_shl a.toBitVec c
  simp [execOp, hf.eval hx, hf.eval hy, eqGuard, binOp, Op.shift, h0, IntKind.bits, wrap_u16]
  exact this

theorem Yl.and16 {a b : UInt16} (hx : ev F x = some (.int .u16 (a.toNat : Int))) (hy : ev F y = some (.int .u16 (b.toNat : Int))) :
    Yl P F H ⟨d, .binOp .and t x y t', ty, pos, aft, gd⟩ (.int .u16 (a &&& b).toNat) := fun _ g w hf _ => by
  have e : (BitVec.ofInt IntKind.u16.bits (a.toNat : Int) &&& BitVec.ofInt IntKind.u16.bits (b.toNat : Int)).toNat = (a &&& b).toNat := by
    show (BitVec.ofInt 16 (a.toNat : Int) &&& BitVec.ofInt 16 (b.toNat : Int)).toNat = _
    rw [bits_u16, bits_u16]; rfl
  have h1 := (a &&& b).toNat_lt
  have hm : (((a &&& b).toNat : Nat) : Int) % 65536 = ((a &&& b).toNat : Int) := Int.emod_eq_of_lt (by omega) (by omega)
  simp only [execOp, hf.eval hx, hf.eval hy, eqGuard, binOp, Op.intBits, e, wrap_u16, hm]
  rfl

theorem Yl.or16 {a b : UInt16} (hx : ev F x = some (.int .u16 (a.toNat : Int))) (hy : ev F y = some (.int .u16 (b.toNat : Int))) :
    Yl P F H ⟨d, .binOp .or t x y t', ty, pos, aft, gd⟩ (.int .u16 (a ||| b).toNat) := fun _ g w hf _ => by
  have e : (BitVec.ofInt IntKind.u16.bits (a.toNat : Int) ||| BitVec.ofInt IntKind.u16.bits (b.toNat : Int)).toNat = (a ||| b).toNat := by
    show (BitVec.ofInt 16 (a.toNat : Int) ||| BitVec.ofInt 16 (b.toNat : Int)).toNat = _
    rw [bits_u16, bits_u16]; rfl
  have h1 := (a ||| b).toNat_lt
  have hm : (((a ||| b).toNat : Nat) : Int) % 65536 = ((a ||| b).toNat : Int) := Int.emod_eq_of_lt (by omega) (by omega)
  simp only [execOp, hf.eval hx, hf.eval hy, eqGuard, binOp, Op.intBits, e, wrap_u16, hm]
  rfl

theorem Yl.xor16 {a b : UInt16} (hx : ev F x = some (.int .u16 (a.toNat : Int))) (hy : ev F y = some (.int .u16 (b.toNat : Int))) :
    Yl P F H ⟨d, .binOp .xor t x y t', ty, pos, aft, gd⟩ (.int .u16 (a ^^^ b).toNat) := fun _ g w hf _ => by
  have e : (BitVec.ofInt IntKind.u16.bits (a.toNat : Int) ^^^ BitVec.ofInt IntKind.u16.bits (b.toNat : Int)).toNat = (a ^^^ b).toNat := by
    show (BitVec.ofInt 16 (a.toNat : Int) ^^^ BitVec.ofInt 16 (b.toNat : Int)).toNat = _
    rw [bits_u16, bits_u16]; rfl
  have h1 := (a ^^^ b).toNat_lt
  have hm : (((a ^^^ b).toNat : Nat) : Int) % 65536 = ((a ^^^ b).toNat : Int) := Int.emod_eq_of_lt (by omega) (by omega)
  simp only [execOp, hf.eval hx, hf.eval hy, eqGuard, binOp, Op.intBits, e, wrap_u16, hm]
  rfl

theorem Yl.not16 {a : UInt16} (hx : ev F x = some (.int .u16 (a.toNat : Int))) :
    Yl P F H ⟨d, .unOp .xor t x, ty, pos, aft, gd⟩ (.int .u16 (~~~a).toNat) := fun _ g w hf _ => by
  have e : (BitVec.ofInt IntKind.u16.bits (IntKind.u16.max) ^^^ BitVec.ofInt IntKind.u16.bits (a.toNat : Int)).toNat = (~~~a).toNat := by
    show (BitVec.ofInt 16 65535 ^^^ BitVec.ofInt 16 (a.toNat : Int)).toNat = _
    rw [bits_u16, show BitVec.ofInt 16 65535 = BitVec.allOnes 16 by decide, BitVec.allOnes_xor]; rfl
  have h1 := (~~~a).toNat_lt
  have hm : (((~~~a).toNat : Nat) : Int) % 65536 = ((~~~a).toNat : Int) := Int.emod_eq_of_lt (by omega) (by omega)
  simp only [execOp, hf.eval hx, Op.unary, IntKind.signed, Bool.false_eq_true, if_false, Op.intBits, e, wrap_u16, hm]
  rfl

theorem Yl.eql16 {a b : UInt16} {r : Bool} (hx : ev F x = some (.int .u16 (a.toNat : Int))) (hy : ev F y = some (.int .u16 (b.toNat : Int))) (hr : decide (a = b) = r) :
    Yl P F H ⟨d, .binOp .eql t x y t', ty, pos, aft, gd⟩ (.bool r) :=
  Yl.eql hx hy (by rw [← hr]; exact decide_eq_decide.2 ⟨fun h => UInt16.toNat_inj.1 (by omega), fun h => by rw [h]⟩)
theorem Yl.neq16 {a b : UInt16} {r : Bool} (hx : ev F x = some (.int .u16 (a.toNat : Int))) (hy : ev F y = some (.int .u16 (b.toNat : Int))) (hr : decide (a ≠ b) = r) :
    Yl P F H ⟨d, .binOp .neq t x y t', ty, pos, aft, gd⟩ (.bool r) :=
  Yl.neq hx hy (by rw [← hr]; exact decide_eq_decide.2 ⟨fun h e => h (by rw [e]), fun h e => h (UInt16.toNat_inj.1 (by omega))⟩)

theorem Yl.shr32 {a : UInt32} {j : IntKind} {c : Nat} (hx : ev F x = some (.int .u32 (a.toNat : Int))) (hy : ev F y = some (.int j (c : Int))) :
    Yl P F H ⟨d, .binOp .shr t x y t', ty, pos, aft, gd⟩ (.int .u32 (shr32 a c).toNat) := fun _ g w hf _ => by
  have h0 : ¬ ((c : Int) < 0) := by omega
  have := pow_min_shr a.toBitVec c
  simp [execOp, hf.eval hx, hf.eval hy, eqGuard, binOp, Op.shift, h0, IntKind.bits]
  exact this

theorem Yl.shl32 {a : UInt32} {j : IntKind} {c : Nat} (hx : ev F x = some (.int .u32 (a.toNat : Int))) (hy : ev F y = some (.int j (c : Int))) :
    Yl P F H ⟨d, .binOp .shl t x y t', ty, pos, aft, gd⟩ (.int .u32 (shl32 a c).toNat) := fun _ g w hf _ => by
  have h0 : ¬ ((c : Int) < 0) := by omega
  have := pow_min_shl a.toBitVec c
  simp [execOp, hf.eval hx, hf.eval hy, eqGuard, binOp, Op.shift, h0, IntKind.bits, wrap_u32]
  exact this

theorem Yl.and32 {a b : UInt32} (hx : ev F x = some (.int .u32 (a.toNat : Int))) (hy : ev F y = some (.int .u32 (b.toNat : Int))) :
    Yl P F H ⟨d, .binOp .and t x y t', ty, pos, aft, gd⟩ (.int .u32 (a &&& b).toNat) := fun _ g w hf _ => by
  have e : (BitVec.ofInt IntKind.u32.bits (a.toNat : Int) &&& BitVec.ofInt IntKind.u32.bits (b.toNat : Int)).toNat = (a &&& b).toNat := by
    show (BitVec.ofInt 32 (a.toNat : Int) &&& BitVec.ofInt 32 (b.toNat : Int)).toNat = _
    rw [bits_u32, bits_u32]; rfl
  have h1 := (a &&& b).toNat_lt
  have hm : (((a &&& b).toNat : Nat) : Int) % 4294967296 = ((a &&& b).toNat : Int) := Int.emod_eq_of_lt (by omega) (by omega)
  simp only [execOp, hf.eval hx, hf.eval hy, eqGuard, binOp, Op.intBits, e, wrap_u32, hm]
  rfl

theorem Yl.or32 {a b : UInt32} (hx : ev F x = some (.int .u32 (a.toNat : Int))) (hy : ev F y = some (.int .u32 (b.toNat : Int))) :
    Yl P F H ⟨d, .binOp .or t x y t', ty, pos, aft, gd⟩ (.int .u32 (a ||| b).toNat) := fun _ g w hf _ => by
  have e : (BitVec.ofInt IntKind.u32.bits (a.toNat : Int) ||| BitVec.ofInt IntKind.u32.bits (b.toNat : Int)).toNat = (a ||| b).toNat := by
    show (BitVec.ofInt 32 (a.toNat : Int) ||| BitVec.ofInt 32 (b.toNat : Int)).toNat = _
    rw [bits_u32, bits_u32]; rfl
  have h1 := (a ||| b).toNat_lt
  have hm : (((a ||| b).toNat : Nat) : Int) % 4294967296 = ((a ||| b).toNat : Int) := Int.emod_eq_of_lt (by omega) (by omega)
  simp only [execOp, hf.eval hx, hf.eval hy, eqGuard, binOp, Op.intBits, e, wrap_u32, hm]
  rfl

theorem Yl.xor32 {a b : UInt32} (hx : ev F x = some (.int .u32 (a.toNat : Int))) (hy : ev F y = some (.int .u32 (b.toNat : Int))) :
    Yl P F H ⟨d, .binOp .xor t x y t', ty, pos, aft, gd⟩ (.int .u32 (a ^^^ b).toNat) := fun _ g w hf _ => by
  have e : (BitVec.ofInt IntKind.u32.bits (a.toNat : Int) ^^^ BitVec.ofInt IntKind.u32.bits (b.toNat : Int)).toNat = (a ^^^ b).toNat := by
    show (BitVec.ofInt 32 (a.toNat : Int) ^^^ BitVec.ofInt 32 (b.toNat : Int)).toNat = _
    rw [bits_u32, bits_u32]; rfl
  have h1 := (a ^^^ b).toNat_lt
  have hm : (((a ^^^ b).toNat : Nat) : Int) % 4294967296 = ((a ^^^ b).toNat : Int) := Int.emod_eq_of_lt (by omega) (by omega)
  simp only [execOp, hf.eval hx, hf.eval hy, eqGuard, binOp, Op.intBits, e, wrap_u32, hm]
  rfl

theorem Yl.not32 {a : UInt32} (hx : ev F x = some (.int .u32 (a.toNat : Int))) :
    Yl P F H ⟨d, .unOp .xor t x, ty, pos, aft, gd⟩ (.int .u32 (~~~a).toNat) := fun _ g w hf _ => by
  have e : (BitVec.ofInt IntKind.u32.bits (IntKind.u32.max) ^^^ BitVec.ofInt IntKind.u32.bits (a.toNat : Int)).toNat = (~~~a).toNat := by
    show (BitVec.ofInt 32 4294967295 ^^^ BitVec.ofInt 32 (a.toNat : Int)).toNat = _
    rw [bits_u32, show BitVec.ofInt 32 4294967295 = BitVec.allOnes 32 by decide, BitVec.allOnes_xor]; rfl
  have h1 := (~~~a).toNat_lt
  have hm : (((~~~a).toNat : Nat) : Int) % 4294967296 = ((~~~a).toNat : Int) := Int.emod_eq_of_lt (by omega) (by omega)
  simp only [execOp, hf.eval hx, Op.unary, IntKind.signed, Bool.false_eq_true, if_false, Op.intBits, e, wrap_u32, hm]
  rfl

theorem Yl.eql32 {a b : UInt32} {r : Bool} (hx : ev F x = some (.int .u32 (a.toNat : Int))) (hy : ev F y = some (.int .u32 (b.toNat : Int))) (hr : decide (a = b) = r) :
    Yl P F H ⟨d, .binOp .eql t x y t', ty, pos, aft, gd⟩ (.bool r) :=
  Yl.eql hx hy (by rw [← hr]; exact decide_eq_decide.2 ⟨fun h => UInt32.toNat_inj.1 (by omega), fun h => by rw [h]⟩)
theorem Yl.neq32 {a b : UInt32} {r : Bool} (hx : ev F x = some (.int .u32 (a.toNat : Int))) (hy : ev F y = some (.int .u32 (b.toNat : Int))) (hr : decide (a ≠ b) = r) :
    Yl P F H ⟨d, .binOp .neq t x y t', ty, pos, aft, gd⟩ (.bool r) :=
  Yl.neq hx hy (by rw [← hr]; exact decide_eq_decide.2 ⟨fun h e => h (by rw [e]), fun h e => h (UInt32.toNat_inj.1 (by omega))⟩)

theorem Yl.shr64 {a : UInt64} {j : IntKind} {c : Nat} (hx : ev F x = some (.int .u64 (a.toNat : Int))) (hy : ev F y = some (.int j (c : Int))) :
    Yl P F H ⟨d, .binOp .shr t x y t', ty, pos, aft, gd⟩ (.int .u64 (shr64 a c).toNat) := fun _ g w hf _ => by
  have h0 : ¬ ((c : Int) < 0) := by omega
  have := pow_min_shr a.toBitVec c
  simp [execOp, hf.eval hx, hf.eval hy, eqGuard, binOp, Op.shift, h0, IntKind.bits]
  exact this

theorem Yl.shl64 {a : UInt64} {j : IntKind} {c : Nat} (hx : ev F x = some (.int .u64 (a.toNat : Int))) (hy : ev F y = some (.int j (c : Int))) :
    Yl P F H ⟨d, .binOp .shl t x y t', ty, pos, aft, gd⟩ (.int .u64 (shl64 a c).toNat) := fun _ g w hf _ => by
  have h0 : ¬ ((c : Int) < 0) := by omega
  have := pow_min_shl a.toBitVec c
  simp [execOp, hf.eval hx, hf.eval hy, eqGuard, binOp, Op.shift, h0, IntKind.bits, wrap_u64]
  exact this

theorem Yl.and64 {a b : UInt64} (hx : ev F x = some (.int .u64 (a.toNat : Int))) (hy : ev F y = some (.int .u64 (b.toNat : Int))) :
    Yl P F H ⟨d, .binOp .and t x y t', ty, pos, aft, gd⟩ (.int .u64 (a &&& b).toNat) := fun _ g w hf _ => by
  have e : (BitVec.ofInt IntKind.u64.bits (a.toNat : Int) &&& BitVec.ofInt IntKind.u64.bits (b.toNat : Int)).toNat = (a &&& b).toNat := by
    show (BitVec.ofInt 64 (a.toNat : Int) &&& BitVec.ofInt 64 (b.toNat : Int)).toNat = _
    rw [bits_u64, bits_u64]; rfl
  have h1 := (a &&& b).toNat_lt
  have hm : (((a &&& b).toNat : Nat) : Int) % 18446744073709551616 = ((a &&& b).toNat : Int) := Int.emod_eq_of_lt (by omega) (by omega)
  simp only [execOp, hf.eval hx, hf.eval hy, eqGuard, binOp, Op.intBits, e, wrap_u64, hm]
  rfl

theorem Yl.or64 {a b : UInt64} (hx : ev F x = some (.int .u64 (a.toNat : Int))) (hy : ev F y = some (.int .u64 (b.toNat : Int))) :
    Yl P F H ⟨d, .binOp .or t x y t', ty, pos, aft, gd⟩ (.int .u64 (a ||| b).toNat) := fun _ g w hf _ => by
  have e : (BitVec.ofInt IntKind.u64.bits (a.toNat : Int) ||| BitVec.ofInt IntKind.u64.bits (b.toNat : Int)).toNat = (a ||| b).toNat := by
    show (BitVec.ofInt 64 (a.toNat : Int) ||| BitVec.ofInt 64 (b.toNat : Int)).toNat = _
    rw [bits_u64, bits_u64]; rfl
  have h1 := (a ||| b).toNat_lt
  have hm : (((a ||| b).toNat : Nat) : Int) % 18446744073709551616 = ((a ||| b).toNat : Int) := Int.emod_eq_of_lt (by omega) (by omega)
  simp only [execOp, hf.eval hx, hf.eval hy, eqGuard, binOp, Op.intBits, e, wrap_u64, hm]
  rfl

theorem Yl.xor64 {a b : UInt64} (hx : ev F x = some (.int .u64 (a.toNat : Int))) (hy : ev F y = some (.int .u64 (b.toNat : Int))) :
    Yl P F H ⟨d, .binOp .xor t x y t', ty, pos, aft, gd⟩ (.int .u64 (a ^^^ b).toNat) := fun _ g w hf _ => by
  have e : (BitVec.ofInt IntKind.u64.bits (a.toNat : Int) ^^^ BitVec.ofInt IntKind.u64.bits (b.toNat : Int)).toNat = (a ^^^ b).toNat := by
    show (BitVec.ofInt 64 (a.toNat : Int) ^^^ BitVec.ofInt 64 (b.toNat : Int)).toNat = _
    rw [bits_u64, bits_u64]; rfl
  have h1 := (a ^^^ b).toNat_lt
  have hm : (((a ^^^ b).toNat : Nat) : Int) % 18446744073709551616 = ((a ^^^ b).toNat : Int) := Int.emod_eq_of_lt (by omega) (by omega)
  simp only [execOp, hf.eval hx, hf.eval hy, eqGuard, binOp, Op.intBits, e, wrap_u64, hm]
  rfl

theorem Yl.not64 {a : UInt64} (hx : ev F x = some (.int .u64 (a.toNat : Int))) :
    Yl P F H ⟨d, .unOp .xor t x, ty, pos, aft, gd⟩ (.int .u64 (~~~a).toNat) := fun _ g w hf _ => by
  have e : (BitVec.ofInt IntKind.u64.bits (IntKind.u64.max) ^^^ BitVec.ofInt IntKind.u64.bits (a.toNat : Int)).toNat = (~~~a).toNat := by
    show (BitVec.ofInt 64 18446744073709551615 ^^^ BitVec.ofInt 64 (a.toNat : Int)).toNat = _
    rw [bits_u64, show BitVec.ofInt 64 18446744073709551615 = BitVec.allOnes 64 by decide, BitVec.allOnes_xor]; rfl
  have h1 := (~~~a).toNat_lt
  have hm : (((~~~a).toNat : Nat) : Int) % 18446744073709551616 = ((~~~a).toNat : Int) := Int.emod_eq_of_lt (by omega) (by omega)
  simp only [execOp, hf.eval hx, Op.unary, IntKind.signed, Bool.false_eq_true, if_false, Op.intBits, e, wrap_u64, hm]
  rfl

theorem Yl.eql64 {a b : UInt64} {r : Bool} (hx : ev F x = some (.int .u64 (a.toNat : Int))) (hy : ev F y = some (.int .u64 (b.toNat : Int))) (hr : decide (a = b) = r) :
    Yl P F H ⟨d, .binOp .eql t x y t', ty, pos, aft, gd⟩ (.bool r) :=
  Yl.eql hx hy (by rw [← hr]; exact decide_eq_decide.2 ⟨fun h => UInt64.toNat_inj.1 (by omega), fun h => by rw [h]⟩)
theorem Yl.neq64 {a b : UInt64} {r : Bool} (hx : ev F x = some (.int .u64 (a.toNat : Int))) (hy : ev F y = some (.int .u64 (b.toNat : Int))) (hr : decide (a ≠ b) = r) :
    Yl P F H ⟨d, .binOp .neq t x y t', ty, pos, aft, gd⟩ (.bool r) :=
  Yl.neq hx hy (by rw [← hr]; exact decide_eq_decide.2 ⟨fun h e => h (by rw [e]), fun h e => h (UInt64.toNat_inj.1 (by omega))⟩)

/-! shifts of ints -/
theorem Yl.shrI {j : IntKind} {c : Nat} (hx : ev F x = some (.int k m)) (hy : ev F y = some (.int j (c : Int))) (hc : Nat.ble c k.bits = true) :
    Yl P F H ⟨d, .binOp .shr t x y t', ty, pos, aft, gd⟩ (.int k (m / 2 ^ c)) := fun _ g w hf _ => by
  have h0 : ¬ ((c : Int) < 0) := by omega
  have h1 : min c k.bits = c := Nat.min_eq_left (Nat.le_of_ble_eq_true hc)
  have h2 : m.fdiv (2 ^ c) = m / 2 ^ c := Int.fdiv_eq_ediv_of_nonneg _ (Int.le_of_lt (Int.pow_pos (by decide)))
  simp [execOp, hf.eval hx, hf.eval hy, eqGuard, binOp, Op.shift, h0, h1, h2]
theorem Yl.shlI {j : IntKind} {c : Nat} (hx : ev F x = some (.int k m)) (hy : ev F y = some (.int j (c : Int))) (hc : Nat.ble c k.bits = true) (hw : k.wrap (m * 2 ^ c) = r) :
    Yl P F H ⟨d, .binOp .shl t x y t', ty, pos, aft, gd⟩ (.int k r) := fun _ g w hf _ => by
  have h0 : ¬ ((c : Int) < 0) := by omega
  have h1 : min c k.bits = c := Nat.min_eq_left (Nat.le_of_ble_eq_true hc)
  simp [execOp, hf.eval hx, hf.eval hy, eqGuard, binOp, Op.shift, h0, h1, hw]

theorem and_mask (w : Nat) (m : Int) (c : Nat) (hc : c ≤ w) : ((BitVec.ofInt w m &&& BitVec.ofInt w (2 ^ c - 1)).toNat : Int) = m % 2 ^ c := by
  have h1 : (BitVec.ofInt w (2 ^ c - 1 : Int)).toNat = 2 ^ c - 1 := by
    have hp : (1 : Int) ≤ 2 ^ c := Int.pow_pos (by decide)
    have hle : (2 : Int) ^ c ≤ 2 ^ w := by
      have := Nat.pow_le_pow_right (n := 2) (by omega) hc
      exact_mod_cast this
    rw [BitVec.toNat_ofInt, Int.emod_eq_of_lt (by omega) (by push_cast; omega)]
    have : ((2 : Int) ^ c - 1) = ((2 ^ c - 1 : Nat) : Int) := by
      rw [Int.natCast_sub (Nat.one_le_two_pow)]; push_cast; rfl
    rw [this, Int.toNat_natCast]
  rw [BitVec.toNat_and, h1, Nat.and_two_pow_sub_one_eq_mod, BitVec.toNat_ofInt]
  have h2 : ((m % ((2 ^ w : Nat) : Int)).toNat : Int) = m % 2 ^ w := by
    rw [Int.toNat_of_nonneg (Int.emod_nonneg _ (by have := Nat.two_pow_pos w; omega))]; push_cast; rfl
  rw [Int.natCast_emod, h2, Int.natCast_pow]
  have : (2 : Int) ^ c ∣ 2 ^ w := ⟨2 ^ (w - c), by rw [← Int.pow_add]; congr 1; omega⟩
  exact Int.emod_emod_of_dvd _ this
/-- a mask of c ones -/
theorem Yl.mask (c : Nat) (hx : ev F x = some (.int k m)) (hy : ev F y = some (.int k n)) (hn : n = 2 ^ c - 1) (hc : Nat.blt c k.bits = true) :
    Yl P F H ⟨d, .binOp .and t x y t', ty, pos, aft, gd⟩ (.int k (m % 2 ^ c)) := fun _ g w hf _ => by
  have hlt : c < k.bits := Nat.le_of_ble_eq_true hc
  have e := and_mask k.bits m c (by omega)
  subst hn
  have h0 : 0 ≤ m % 2 ^ c := Int.emod_nonneg _ (by have : (0 : Int) < 2 ^ c := Int.pow_pos (by decide); omega)
  have h1 : m % 2 ^ c < 2 ^ c := Int.emod_lt_of_pos _ (Int.pow_pos (by decide))
  have hw : k.wrap (m % 2 ^ c) = m % 2 ^ c := by
    have h2 : (2 : Int) ^ c ≤ 2 ^ (k.bits - 1) := by
      have := Nat.pow_le_pow_right (n := 2) (by omega) (show c ≤ k.bits - 1 by omega)
      exact_mod_cast this
    have h3 : (2 : Int) ^ (k.bits - 1) ≤ 2 ^ k.bits := by
      have := Nat.pow_le_pow_right (n := 2) (by omega) (show k.bits - 1 ≤ k.bits by omega)
      exact_mod_cast this
    unfold IntKind.wrap
    have h4 : m % 2 ^ c % (2 ^ k.bits : Int) = m % 2 ^ c := Int.emod_eq_of_lt h0 (by omega)
    simp only [h4]
    rw [if_neg]
    simp
    intro _
    omega
  simp only [execOp, hf.eval hx, hf.eval hy, eqGuard, binOp, Op.intBits, e, hw]
  simp
end

/-! ## Strings -/
theorem size_mkL (l : List UInt8) : (ByteArray.mk l.toArray).size = l.length := rfl
section
variable {t t' : TypeId} {x y : Operand} {k : IntKind} {m n : Int} {a b : List UInt8}

theorem Yl.addS (hx : ev F x = some (vS a)) (hy : ev F y = some (vS b)) (hl : a.length + b.length ≤ 9223372036854775807) : Yl P F H ⟨d, .binOp .add t x y t', ty, pos, aft, gd⟩ (vS (a ++ b)) := fun _ g w hf _ => by
  have := run_string_add_sum (P := P) (w := w) (ByteArray.mk a.toArray) (ByteArray.mk b.toArray) (by rw [size_mkL, size_mkL]; exact hl)
  simp [execOp, hf.eval hx, hf.eval hy, eqGuard, binOp, this, ByteArray.mk_append_mk]
theorem Yl.eqlS {r : Bool} (hx : ev F x = some (vS a)) (hy : ev F y = some (vS b)) (hr : decide (a = b) = r) : Yl P F H ⟨d, .binOp .eql t x y t', ty, pos, aft, gd⟩ (.bool r) := fun _ g w hf _ => by
  subst hr
  simp [execOp, hf.eval hx, hf.eval hy, eqGuard, binOp_string_eql]
  rw [Bool.beq_eq_decide_eq]
theorem Yl.neqS {r : Bool} (hx : ev F x = some (vS a)) (hy : ev F y = some (vS b)) (hr : decide (a ≠ b) = r) : Yl P F H ⟨d, .binOp .neq t x y t', ty, pos, aft, gd⟩ (.bool r) := fun _ g w hf _ => by
  subst hr
  simp [execOp, hf.eval hx, hf.eval hy, eqGuard, binOp_string_neq]
  rw [Bool.beq_eq_decide_eq]
theorem Yl.lenS (hu : P.underlying t = some .string) (hx : ev F x = some (vS a)) : Yl P F H ⟨d, .call { callee := .builtin .len, args := #[x], argTypes := #[t] }, ty, pos, aft, gd⟩ (.int .i64 (a.length : Int)) := fun _ g w hf _ => by
  simp [execOp, resolve, invoke, builtin, hf.eval hx, Builtin.len_, run_underlying hu, goInt, size_mkL]
theorem Yl.idxS {j : Nat} {c : UInt8} (hu : P.underlying t = some .string) (hx : ev F x = some (vS a)) (hy : ev F y = some (.int k n)) (hn : n = (j : Int)) (hc : a[j]? = some c) :
    Yl P F H ⟨d, .index t x y, ty, pos, aft, gd⟩ (.int .u8 (c.toNat : Int)) := fun _ g w hf _ => by
  subst hn
  have h1 : (ByteArray.mk a.toArray)[j]? = some c := by
    obtain ⟨hlt, he⟩ := List.getElem?_eq_some_iff.1 hc
    rw [ByteArray.getElem?_lt' _ _ (by rw [size_mkL]; exact hlt)]
    simp only [Option.some.injEq]
    exact he
  simp [execOp, hf.eval hx, hf.eval hy, Instr.index, asIntOf, run_underlying hu, h1]

theorem extract_mk (l : List UInt8) (i j : Nat) : (ByteArray.mk l.toArray).extract i j = ByteArray.mk ((l.take j).drop i).toArray := by
  have : ((ByteArray.mk l.toArray).extract i j).data = ((l.take j).drop i).toArray := by
    rw [ByteArray.data_extract]
    simp [List.extract_eq_take_drop, List.drop_take]
  cases h : (ByteArray.mk l.toArray).extract i j
  rw [h] at this
  simpa using this

theorem Yl.sliceSH {j : Nat} (hu : P.underlying t = some .string) (hx : ev F x = some (vS a)) (hy : ev F y = some (.int k n)) (hn : n = (j : Int)) (hl : j ≤ a.length) :
    Yl P F H ⟨d, .slice t x none (some y) none, ty, pos, aft, gd⟩ (vS (a.take j)) := fun _ g w hf _ => by
  subst hn
  simp [execOp, hf.eval hx, hf.eval hy, Instr.sliceAt, Instr.slice, Instr.sliceBounds, Instr.sliceBound, asIntOf, run_underlying hu, size_mkL, hl, extract_mk]
theorem Yl.sliceSL {j : Nat} (hu : P.underlying t = some .string) (hx : ev F x = some (vS a)) (hy : ev F y = some (.int k n)) (hn : n = (j : Int)) (hl : j ≤ a.length) :
    Yl P F H ⟨d, .slice t x (some y) none none, ty, pos, aft, gd⟩ (vS (a.drop j)) := fun _ g w hf _ => by
  subst hn
  simp [execOp, hf.eval hx, hf.eval hy, Instr.sliceAt, Instr.slice, Instr.sliceBounds, Instr.sliceBound, asIntOf, run_underlying hu, size_mkL, hl, extract_mk]
theorem Yl.sliceSLH {z : Operand} {k' : IntKind} {i j : Nat} (hu : P.underlying t = some .string) (hx : ev F x = some (vS a)) (hy : ev F y = some (.int k n)) (hz : ev F z = some (.int k' m)) (hn : n = (i : Int)) (hm : m = (j : Int)) (hl : i ≤ j) (hj : j ≤ a.length) :
    Yl P F H ⟨d, .slice t x (some y) (some z) none, ty, pos, aft, gd⟩ (vS ((a.take j).drop i)) := fun _ g w hf _ => by
  subst hn; subst hm
  simp [execOp, hf.eval hx, hf.eval hy, hf.eval hz, Instr.sliceAt, Instr.slice, Instr.sliceBounds, Instr.sliceBound, asIntOf, run_underlying hu, size_mkL, hl, hj, extract_mk]
end

/-! ## Calls of named functions -/
section
theorem callFunc_enter {f : FuncId} {fn : Func} {c : Code} (hf : P.funcs[f]? = some fn) (hb : fn.body = some c) (hn : (fn.name == "runtime.NumGoroutine") = false) (args : Array Value) (w : World) : (callFunc f args).run P w = .ok (.enter f args) w := by
  have hn' : ¬ fn.name = "runtime.NumGoroutine" := by simpa using hn
  simp [callFunc, hf, hb, hn']

def evs (F : FL) : List Operand → List Value → Prop
  | [], [] => True
  | x :: xs, v :: vs => ev F x = some v ∧ evs F xs vs
  | _, _ => False
theorem evs_map {a : Act} (hF : FHas a F) : ∀ {xs : List Operand} {vs : List Value}, evs F xs vs → xs.map a.eval = vs
  | [], [], _ => rfl
  | x :: xs, v :: vs, h => by simp only [List.map_cons]; rw [hF.eval h.1, evs_map hF h.2]
  | [], _ :: _, h => h.elim
  | _ :: _, [], h => h.elim

theorem Cll.func {f : FuncId} {fn : Func} {c : Code} {xs : List Operand} {vs : List Value} {ts : Array TypeId} (hf : P.funcs[f]? = some fn) (hb : fn.body = some c) (hn : (fn.name == "runtime.NumGoroutine") = false) (hx : evs F xs vs) :
    Cll P F H ⟨d, .call { callee := .value (.func f), args := xs.toArray, argTypes := ts }, ty, pos, aft, gd⟩ f vs.toArray := fun a g w hF _ => by
  have := evs_map hF hx
  have e : xs.toArray.map a.eval = vs.toArray := by rw [List.map_toArray, this]
  simp [execOp, resolve, Deferred.ofValue, Act.eval, invoke, e, callFunc_enter hf hb hn]
end
end Go.Proofs.YtlhncphipfkkjaaGreatDoor

/- Regions that draw their order: what yields one value in every world of a class, calls that change nothing among them, may be taken first; what is left is branched over. (After the kit's laws on orders, with quiet calls let in.) -/
namespace Go.Proofs.YtlhncphipfkkjaaGreatDoor
open Go

section
variable {P : Program} {ops : Array Oper} {Q : Exit → Act → World → Prop} {S : World → Prop}

/-- one value in every world that meets S; a call may leave another world, that keeps all blocks -/
def YieldsQ (P : Program) (ops : Array Oper) (S : World → Prop) (o : Oper) (v : Value) (a : Act) : Prop :=
  (Region.wanted o (yielded ops a.tmps) = true ∧ ∀ w, S w → (execOp a.eval o).run P w = .ok (.value v) w ∨
    ∃ f args, (execOp a.eval o).run P w = .ok (.enter f args) w ∧ Calls P f args w fun e w' => e = .returned v ∧ Keep w w') ∨
  (Region.wanted o (yielded ops a.tmps) = false ∧ v = undef)

theorem YieldsQ.wpOp {i : Nat} {o : Oper} {v : Value} {a : Act} (hi : ops[i]? = some o) (hy : YieldsQ P ops S o v a)
    {K : Act → World → Prop} {w : World} (hS : S w) (h : ∀ w', Keep w w' → K (a.put o.dst v) w') : wpOp P ops Q i K a w := by
  unfold Go.wpOp
  simp only [hi]
  rcases hy with ⟨hw, hv⟩ | ⟨hw, rfl⟩
  · simp only [hw, if_true]
    refine .inl ?_
    unfold Oper.wp
    rcases hv w hS with hv | ⟨f, args, hv, hc⟩
    · rw [hv]; exact h w (Keep.refl w)
    · rw [hv, Oper.upon_enter]
      exact hc.mono fun e w' ⟨he, hk⟩ => by subst he; exact h w' hk
  · simp only [hw, Bool.false_eq_true, if_false]; exact h w (Keep.refl w)

theorem YieldsQ.of_same {o : Oper} {v : Value} {a a' : Act} (hy : YieldsQ P ops S o v a) (he : execOp a'.eval o = execOp a.eval o)
    (hw : Region.wanted o (yielded ops a'.tmps) = Region.wanted o (yielded ops a.tmps)) : YieldsQ P ops S o v a' := by
  unfold YieldsQ at *
  rw [he, hw]
  exact hy

theorem wpOp_putQ {j : Nat} {oi oj : Oper} {v : Value} (hj : ops[j]? = some oj) (hap : oi.apart ops oj = true)
    (hsj : ∀ cs b, oj.op ≠ .select cs b)
    (hQ : ∀ c a w, Q (.panic c) (a.put oi.dst v) w → Q (.panic c) a w) {K : Act → World → Prop} {a : Act} {w : World} {Y : Act → Prop}
    (hy : Y a) (keep : ∀ a, Y a → ∀ u, Y (a.put oj.dst u)) (keepD : ∀ d, Y { a with defers := d :: a.defers }) (h : wpOp P ops Q j K (a.put oi.dst v) w) :
    wpOp P ops Q j (fun a' w' => Y a' ∧ K (a'.put oi.dst v) w') a w := by
  obtain ⟨h1, h2, h3⟩ := Oper.apart_spec hap
  unfold wpOp at *
  simp only [hj] at *
  rw [wanted_put oj a oi.dst v h1] at h
  split
  · rename_i hw
    simp only [hw, if_true] at h
    rcases h with h | ⟨hasks, hlets⟩
    case inr => exact .inr ⟨by unfold Oper.asks at *; rw [execOp_put oj hsj a oi.dst v h1] at hasks; exact hasks, hlets⟩
    refine .inl ?_
    unfold Oper.wp at *
    rw [execOp_put oj hsj a oi.dst v h1] at h
    generalize (execOp a.eval oj).run P w = r at *
    cases r with
    | ok n w' =>
      cases n <;> simp only [Oper.upon] at h ⊢
      case value u => exact ⟨keep a hy u, by rw [← Act.put_comm a v u h2]; exact h⟩
      case skip => exact ⟨keep a hy _, by rw [← Act.put_comm a v undef h2]; exact h⟩
      case defer d =>
        refine ⟨keep _ (keepD d) _, ?_⟩
        rw [← Act.put_comm _ v undef h2, ← Act.put_defers]
        exact h
      case enter f args =>
        refine Calls.mono h fun e w'' he => ?_
        cases e with
        | returned u => exact ⟨keep a hy u, by rw [← Act.put_comm a v u h2]; exact he⟩
        | panicked c => exact hQ _ _ _ he
        | outgrown => exact he
      case row row args => exact Rows.mono h fun u w'' he => ⟨keep a hy u, by rw [← Act.put_comm a v u h2]; exact he⟩
    | halt x w' =>
      cases x <;> simp only [Oper.upon] at h ⊢
      case panic u => exact hQ _ _ _ h
  · rename_i hw
    simp only [hw] at h
    exact ⟨keep a hy _, by rw [← Act.put_comm a v undef h2]; exact h⟩
end

section
variable {P : Program} {ops : Array Oper} {Q : Exit → Act → World → Prop} {S : Array Bool → World → Prop}

/-- whatever order is picked; the class of what has come up holds behind each operation; what follows goes through in every world that keeps the blocks -/
def wpAnyE (P : Program) (ops : Array Oper) (Q : Exit → Act → World → Prop) (S : Array Bool → World → Prop) : Nat → Array Bool → Act → World → Prop
  | 0, listed, a, w => Region.ready .any ops listed = [] ∧ Q .normal a w
  | fuel + 1, listed, a, w =>
    (Region.ready .any ops listed = [] → Q .normal a w) ∧
    ∀ i ∈ Region.ready .any ops listed, wpOp P ops Q i (fun a' w' => S (listed.setIfInBounds i true) w' ∧ ∀ w1, Keep w' w1 → wpAnyE P ops Q S fuel (listed.setIfInBounds i true) a' w1) a w

theorem wpAny_of_E : ∀ (fuel : Nat) (listed : Array Bool) (a : Act) (w : World), wpAnyE P ops Q S fuel listed a w → wpAny P .any ops Q fuel listed a w
  | 0, _, _, _, h => h
  | fuel + 1, _, _, _, h => ⟨h.1, fun i hi => wpOp_mono (fun a' w' h' => wpAny_of_E fuel _ a' w' (h'.2 w' (Keep.refl _))) (h.2 i hi)⟩

/-- does j wait for i, by an edge of its own? -/
def waitsB (ops : Array Oper) (j i : Nat) : Bool :=
  match ops[j]? with
  | some oj => oj.after.any fun e => Region.binds .any e && Nat.beq e.on i
  | none => false

/-- what may have come up besides, while i has not -/
def Pending (ops : Array Oper) (i : Nat) (l0 l : Array Bool) : Prop :=
  l.getD i true = false ∧ ∀ m, l.getD m false = true → l0.getD m false = true ∨ waitsB ops m i = false

theorem getD_set_cases {l : Array Bool} {j m : Nat} (h : (l.setIfInBounds j true).getD m false = true) : m = j ∨ l.getD m false = true := by
  by_cases e : j = m
  · exact .inl e.symm
  · rw [getD_set_ne false e] at h; exact .inr h

theorem Pending.set {i j : Nat} {l0 l : Array Bool} (h : Pending ops i l0 l) (hj : j ∈ Region.ready .any ops l) (hne : j ≠ i) : Pending ops i l0 (l.setIfInBounds j true) := by
  refine ⟨by rw [getD_set_ne true hne]; exact h.1, fun m hm => ?_⟩
  rcases getD_set_cases hm with rfl | hm
  · refine .inr ?_
    obtain ⟨_, oj, hoj, hall⟩ := mem_ready.1 hj
    unfold waitsB
    rw [hoj]
    simp only
    rw [Bool.eq_false_iff]
    intro hany
    obtain ⟨e, he, hb⟩ := Array.any_eq_true'.1 hany
    simp only [Bool.and_eq_true] at hb
    have h1 := hall e he hb.1
    rw [Nat.eq_of_beq_eq_true hb.2] at h1
    have h0 := h.1
    rcases Nat.lt_or_ge i l.size with h' | h'
    · simp [h'] at h0 h1; rw [h0] at h1; cases h1
    · simp [Array.getElem?_eq_none h'] at h1
  · exact h.2 m hm

theorem wpAnyE_first {i : Nat} {oi : Oper} {v : Value} {l0 : Array Bool} (hi : ops[i]? = some oi) (hsel : ∀ (j : Nat) (o : Oper) cs b, ops[j]? = some o → o.op ≠ .select cs b)
    (hQ : ∀ c a w, Q (.panic c) (a.put oi.dst v) w → Q (.panic c) a w) (hK : ∀ l w w', S l w → Keep w w' → S l w') (hSi : ∀ l, S (l.setIfInBounds i true) = S l) :
    ∀ (fuel : Nat) (listed : Array Bool) (a : Act) (w : World), Pending ops i l0 listed →
      (∀ j oj, ops[j]? = some oj → j ≠ i → listed.getD j true = false → (∀ e ∈ oj.after, Region.binds .any e = true → e.on ≠ i) → oi.apart ops oj = true) →
      i ∈ Region.ready .any ops listed → (∀ l, Pending ops i l0 l → YieldsQ P ops (S l) oi v a) → S listed w →
      (∀ w1, Keep w w1 → wpAnyE P ops Q S fuel (listed.setIfInBounds i true) (a.put oi.dst v) w1) → wpAnyE P ops Q S (fuel + 1) listed a w := by
  intro fuel
  induction fuel with
  | zero =>
    intro listed a w hp _ hr hy hS H
    refine ⟨fun h => (by rw [h] at hr; cases hr), fun j hj => ?_⟩
    by_cases hji : j = i
    · subst hji; exact (hy _ hp).wpOp hi hS fun w' hk => ⟨by rw [hSi]; exact hK _ _ _ hS hk, fun w1 hk1 => H w1 (hk.trans hk1)⟩
    · have := ready_mono hj hji
      rw [(H w (Keep.refl w)).1] at this
      cases this
  | succ fuel ih =>
    intro listed a w hp hfree hr hy hS H
    refine ⟨fun h => (by rw [h] at hr; cases hr), fun j hj => ?_⟩
    by_cases hji : j = i
    · subst hji; exact (hy _ hp).wpOp hi hS fun w' hk => ⟨by rw [hSi]; exact hK _ _ _ hS hk, fun w1 hk1 => H w1 (hk.trans hk1)⟩
    · have h1 := (H w (Keep.refl w)).2 j (ready_mono hj hji)
      obtain ⟨hjun, oj, hoj, hall⟩ := mem_ready.1 hj
      have hnot : ∀ e ∈ oj.after, Region.binds .any e = true → e.on ≠ i := fun e he hb heq => by
        have h1 := hall e he hb
        have h0 := (mem_ready.1 hr).1
        rw [heq] at h1
        rcases Nat.lt_or_ge i listed.size with h' | h'
        · simp [h'] at h0 h1; rw [h0] at h1; cases h1
        · simp [Array.getElem?_eq_none h'] at h1
      have hap := hfree j oj hoj hji hjun hnot
      obtain ⟨_, _, h3⟩ := Oper.apart_spec hap
      have hsi := fun cs b => hsel i oi cs b hi
      have h2 := wpOp_putQ (Y := fun a' => ∀ l, Pending ops i l0 l → YieldsQ P ops (S l) oi v a') hoj hap (fun cs b => hsel j oj cs b hoj) hQ hy
        (fun a hy u l hl => (hy l hl).of_same (execOp_put oi hsi a oj.dst u h3) (wanted_put oi a oj.dst u h3))
        (fun d l hl => (hy l hl).of_same rfl rfl) h1
      have hfree' : ∀ k ok, ops[k]? = some ok → k ≠ i → (listed.setIfInBounds j true).getD k true = false →
          (∀ e ∈ ok.after, Region.binds .any e = true → e.on ≠ i) → oi.apart ops ok = true := fun k ok hk hki hun hno => by
        refine hfree k ok hk hki ?_ hno
        by_cases hjk : j = k
        · subst hjk; exact hjun
        · rw [getD_set_ne true hjk] at hun; exact hun
      refine wpOp_mono (fun a' w' h3 => ?_) h2
      have hS' : S (listed.setIfInBounds j true) w' := by
        have := h3.2.1
        rw [Array.setIfInBounds_comm _ _ (Ne.symm hji), hSi] at this
        exact this
      refine ⟨hS', fun w1 hk1 => ih (listed.setIfInBounds j true) a' w1 (hp.set hj hji) hfree' (ready_mono hr (Ne.symm hji)) h3.1 (hK _ _ _ hS' hk1) fun w2 hk2 => ?_⟩
      rw [Array.setIfInBounds_comm _ _ hji]
      exact h3.2.2 w2 (hk1.trans hk2)
end

/-! ## Over frames and heaps -/

/-- the class: as long as none of the operations W has come up, the blocks Hs are as they were -/
def Cls (W : List Nat) (g : World) (Hs : HL) (l : Array Bool) (w : World) : Prop := (W.all fun k => !l.getD k false) = true → Own g w Hs

def TA (P : Program) (ops : Array Oper) (W : List Nat) (N R : Act → World → Prop) (E : Nat → Act → World → Prop) (n : Nat) (D : List Deferred) (g : World) (Hs : HL) (fuel : Nat) (l : Array Bool) (F : FL) (H : HL) : Prop :=
  Region.noSelect ops = true → ∀ a w, St n D F g H a w → Cls W g Hs l w → wpAnyE P ops (mkQ N R E) (Cls W g Hs) fuel l a w

theorem Cls.keep {W : List Nat} {g : World} {Hs : HL} (l : Array Bool) (w w' : World) (h : Cls W g Hs l w) (hk : Keep w w') : Cls W g Hs l w' := fun hl => hk _ _ (h hl)

theorem Cls.set {W : List Nat} {g : World} {Hs : HL} {i : Nat} (hi : W.contains i = false) (l : Array Bool) : Cls W g Hs (l.setIfInBounds i true) = Cls W g Hs l := by
  funext w
  have : (W.all fun k => !(l.setIfInBounds i true).getD k false) = (W.all fun k => !l.getD k false) := by
    rw [Bool.eq_iff_iff, List.all_eq_true, List.all_eq_true]
    refine forall_congr' fun k => forall_congr' fun hk => ?_
    have hne : i ≠ k := fun e => by subst e; simp [hk] at hi
    rw [getD_set_ne false hne]
  unfold Cls
  rw [this]

/-- may number i be taken first? -/
def takeB (ops : Array Oper) (W : List Nat) (l : Array Bool) (i : Nat) : Bool := Region.free .any ops l i && (Region.ready .any ops l).contains i && !W.contains i
/-- and be it a load, or a call that reads? -/
def loadB (ops : Array Oper) (W : List Nat) (l : Array Bool) (i : Nat) : Bool := takeB ops W l i && W.all fun k => !l.getD k false && waitsB ops k i

section
variable {P : Program} {ops : Array Oper} {W : List Nat} {N R : Act → World → Prop} {E : Nat → Act → World → Prop} {n : Nat} {D : List Deferred} {g : World} {Hs : HL} {fuel : Nat} {l : Array Bool} {F : FL} {H : HL}

theorem TC.draws (W : List Nat) (Hs : HL) {id : Nat} {ol : List Oper} {m : Nat} (hm : P.follows .mixedOrders = true) (hsel : Region.noSelect ol.toArray = true) (hn : ol.length = m) (hs : ∀ w, Own g w H → Own g w Hs)
    (h : TA P ol.toArray W N R E n D g Hs m (Array.replicate m false) F H) : TC P (mkQ N R E) n D g (.region id ol.toArray true) F H := by
  intro a w hst
  refine wp_region_any hm (wpAny_of_E _ _ _ _ (S := Cls W g Hs) ?_)
  have := h hsel a w.drew (hst.world hst.own.drew) (fun _ => hs _ hst.own.drew)
  subst hn
  simpa using this

theorem TA.done (hr : Region.ready .any ops l = []) (h : ∀ a w, St n D F g H a w → N a w) : TA P ops W N R E n D g Hs fuel l F H := fun _ a w hst _ => by
  cases fuel with
  | zero => exact ⟨hr, h a w hst⟩
  | succ k => exact ⟨fun _ => h a w hst, by rw [hr]; simp⟩

theorem TA.next {c : Code} {Q' : Exit → Act → World → Prop} (hr : Region.ready .any ops l = []) (h : TC P Q' n D g c F H) : TA P ops W (c.wp P Q') R E n D g Hs fuel l F H :=
  TA.done hr h

theorem TA.first (i : Nat) {oi : Oper} {v : Value} {F' : FL} (hi : ops[i]? = some oi) (hf : takeB ops W l i = true)
    (hy : ∀ a, FHas a F → ∀ m, Pending ops i l m → YieldsQ P ops (Cls W g Hs m) oi v a)
    (hF : ∀ a w, St n D F g H a w → St n D F' g H (a.put oi.dst v) w)
    (h : TA P ops W N R E n D g Hs fuel (l.setIfInBounds i true) F' H) : TA P ops W N R E n D g Hs (fuel + 1) l F H := fun hsel a w hst hc => by
  simp only [takeB, Bool.and_eq_true, Bool.not_eq_true'] at hf
  obtain ⟨⟨hfree, hready⟩, hW⟩ := hf
  have hir : i ∈ Region.ready .any ops l := by simpa using hready
  have hun : l.getD i true = false := (mem_ready.1 hir).1
  refine wpAnyE_first (l0 := l) hi (Region.noSelect_spec hsel) (fun _ _ _ h => h) (fun m w w' => Cls.keep m w w') (Cls.set hW) fuel l a w ⟨hun, fun _ hm => .inl hm⟩
    (Region.free_spec hi hfree) hir (hy a hst.frame) hc fun w1 hk => ?_
  refine h hsel _ _ (hF _ _ (hst.world (hk _ _ hst.own))) ?_
  rw [Cls.set hW]
  exact hc.keep _ _ _ hk

/-- what hangs on no world -/
theorem TA.pure (i : Nat) {d : Nat} {op : Op} {ty : TypeId} {pos : String} {aft : Array Edge} {v : Value} (hi : ops[i]? = some ⟨some d, op, ty, pos, aft, none⟩) (hf : takeB ops W l i = true)
    (hy : Yl P F [] ⟨some d, op, ty, pos, aft, none⟩ v) (hd : Nat.blt d n = true) (h : TA P ops W N R E n D g Hs fuel (l.setIfInBounds i true) ((d, v) :: F) H) : TA P ops W N R E n D g Hs (fuel + 1) l F H :=
  TA.first i hi hf (fun a hF _ _ => .inl ⟨rfl, fun w _ => .inl (hy a w w hF ⟨List.nodup_nil, by simp, rfl, rfl⟩)⟩) (fun _ _ hst => hst.put hd v) h

theorem Cls.of_pending {i : Nat} {m : Array Bool} (hl : (W.all fun k => !l.getD k false && waitsB ops k i) = true) (hp : Pending ops i l m) {w : World} (h : Cls W g Hs m w) : Own g w Hs := by
  refine h (List.all_eq_true.2 fun k hk => ?_)
  have := List.all_eq_true.1 hl k hk
  simp only [Bool.and_eq_true, Bool.not_eq_true'] at this
  rw [Bool.not_eq_true', Bool.eq_false_iff]
  intro hm
  rcases hp.2 k hm with h1 | h1
  · rw [this.1] at h1; cases h1
  · rw [this.2] at h1; cases h1

/-- a load -/
theorem TA.load (i : Nat) {d : Nat} {op : Op} {ty : TypeId} {pos : String} {aft : Array Edge} {v : Value} (hi : ops[i]? = some ⟨some d, op, ty, pos, aft, none⟩) (hf : loadB ops W l i = true)
    (hy : Yl P F Hs ⟨some d, op, ty, pos, aft, none⟩ v) (hd : Nat.blt d n = true) (h : TA P ops W N R E n D g Hs fuel (l.setIfInBounds i true) ((d, v) :: F) H) : TA P ops W N R E n D g Hs (fuel + 1) l F H := by
  simp only [loadB, Bool.and_eq_true] at hf
  exact TA.first i hi hf.1 (fun a hF m hp => .inl ⟨rfl, fun w hc => .inl (hy a g w hF (hc.of_pending hf.2 hp))⟩) (fun _ _ hst => hst.put hd v) h

/-- a call that changes nothing -/
theorem TA.quiet (i : Nat) {d : Nat} {op : Op} {ty : TypeId} {pos : String} {aft : Array Edge} {v : Value} {f : FuncId} {args : Array Value} (hi : ops[i]? = some ⟨some d, op, ty, pos, aft, none⟩) (hf : loadB ops W l i = true)
    (hy : Cll P F Hs ⟨some d, op, ty, pos, aft, none⟩ f args) (hd : Nat.blt d n = true) (hc : Quiet P f args Hs v) (h : TA P ops W N R E n D g Hs fuel (l.setIfInBounds i true) ((d, v) :: F) H) : TA P ops W N R E n D g Hs (fuel + 1) l F H := by
  simp only [loadB, Bool.and_eq_true] at hf
  exact TA.first i hi hf.1 (fun a hF m hp => .inl ⟨rfl, fun w hcl => .inr ⟨f, args, hy a g w hF (hcl.of_pending hf.2 hp), hc g w (hcl.of_pending hf.2 hp)⟩⟩) (fun _ _ hst => hst.put hd v) h

theorem wanted_guard {a : Act} {j t : Nat} {b c : Bool} {oj : Oper} {d : Option Nat} {op : Op} {ty : TypeId} {pos : String} {aft : Array Edge} (hF : FHas a F) (hj : ops[j]? = some oj) (ht : oj.dst = some t) (hb : F.get t = some (.bool b)) :
    Region.wanted ⟨d, op, ty, pos, aft, some (j, c)⟩ (yielded ops a.tmps) = (b == c) := by
  have hy : yielded ops a.tmps j = some b := by
    have := hF t _ hb
    simp [yielded, hj, ht, this]
  simp only [Region.wanted, hy]
  cases b <;> cases c <;> rfl

/-- an operation under a guard that says no -/
theorem TA.no (i : Nat) {d : Nat} {op : Op} {ty : TypeId} {pos : String} {aft : Array Edge} {j t : Nat} {b c : Bool} {oj : Oper} (hi : ops[i]? = some ⟨some d, op, ty, pos, aft, some (j, c)⟩) (hf : takeB ops W l i = true)
    (hj : ops[j]? = some oj) (ht : oj.dst = some t) (hb : F.get t = some (.bool b)) (hne : (b == c) = false) (hd : Nat.blt d n = true)
    (h : TA P ops W N R E n D g Hs fuel (l.setIfInBounds i true) ((d, undef) :: F) H) : TA P ops W N R E n D g Hs (fuel + 1) l F H :=
  TA.first i hi hf (fun a hF _ _ => .inr ⟨by rw [wanted_guard hF hj ht hb]; exact hne, rfl⟩) (fun _ _ hst => hst.put hd undef) h

theorem TA.pureG (i : Nat) {d : Nat} {op : Op} {ty : TypeId} {pos : String} {aft : Array Edge} {v : Value} {j t : Nat} {c : Bool} {oj : Oper} (hi : ops[i]? = some ⟨some d, op, ty, pos, aft, some (j, c)⟩) (hf : takeB ops W l i = true)
    (hj : ops[j]? = some oj) (ht : oj.dst = some t) (hb : F.get t = some (.bool c))
    (hy : Yl P F [] ⟨some d, op, ty, pos, aft, some (j, c)⟩ v) (hd : Nat.blt d n = true) (h : TA P ops W N R E n D g Hs fuel (l.setIfInBounds i true) ((d, v) :: F) H) : TA P ops W N R E n D g Hs (fuel + 1) l F H :=
  TA.first i hi hf (fun a hF _ _ => .inl ⟨by rw [wanted_guard hF hj ht hb]; cases c <;> rfl, fun w _ => .inl (hy a w w hF ⟨List.nodup_nil, by simp, rfl, rfl⟩)⟩) (fun _ _ hst => hst.put hd v) h

theorem TA.loadG (i : Nat) {d : Nat} {op : Op} {ty : TypeId} {pos : String} {aft : Array Edge} {v : Value} {j t : Nat} {c : Bool} {oj : Oper} (hi : ops[i]? = some ⟨some d, op, ty, pos, aft, some (j, c)⟩) (hf : loadB ops W l i = true)
    (hj : ops[j]? = some oj) (ht : oj.dst = some t) (hb : F.get t = some (.bool c))
    (hy : Yl P F Hs ⟨some d, op, ty, pos, aft, some (j, c)⟩ v) (hd : Nat.blt d n = true) (h : TA P ops W N R E n D g Hs fuel (l.setIfInBounds i true) ((d, v) :: F) H) : TA P ops W N R E n D g Hs (fuel + 1) l F H := by
  simp only [loadB, Bool.and_eq_true] at hf
  exact TA.first i hi hf.1 (fun a hF m hp => .inl ⟨by rw [wanted_guard hF hj ht hb]; cases c <;> rfl, fun w hc => .inl (hy a g w hF (hc.of_pending hf.2 hp))⟩) (fun _ _ hst => hst.put hd v) h

theorem TA.quietG (i : Nat) {d : Nat} {op : Op} {ty : TypeId} {pos : String} {aft : Array Edge} {v : Value} {f : FuncId} {args : Array Value} {j t : Nat} {c : Bool} {oj : Oper} (hi : ops[i]? = some ⟨some d, op, ty, pos, aft, some (j, c)⟩) (hf : loadB ops W l i = true)
    (hj : ops[j]? = some oj) (ht : oj.dst = some t) (hb : F.get t = some (.bool c))
    (hy : Cll P F Hs ⟨some d, op, ty, pos, aft, some (j, c)⟩ f args) (hd : Nat.blt d n = true) (hc : Quiet P f args Hs v) (h : TA P ops W N R E n D g Hs fuel (l.setIfInBounds i true) ((d, v) :: F) H) : TA P ops W N R E n D g Hs (fuel + 1) l F H := by
  simp only [loadB, Bool.and_eq_true] at hf
  exact TA.first i hi hf.1 (fun a hF m hp => .inl ⟨by rw [wanted_guard hF hj ht hb]; cases c <;> rfl, fun w hcl => .inr ⟨f, args, hy a g w hF (hcl.of_pending hf.2 hp), hc g w (hcl.of_pending hf.2 hp)⟩⟩) (fun _ _ hst => hst.put hd v) h

/-! ### Whichever comes up -/

/-- number i comes up -/
def Up (P : Program) (ops : Array Oper) (W : List Nat) (N R : Act → World → Prop) (E : Nat → Act → World → Prop) (n : Nat) (D : List Deferred) (g : World) (Hs : HL) (fuel : Nat) (l : Array Bool) (F : FL) (H : HL) (i : Nat) : Prop :=
  Region.noSelect ops = true → ∀ a w, St n D F g H a w → Cls W g Hs l w →
    wpOp P ops (mkQ N R E) i (fun a' w' => Cls W g Hs (l.setIfInBounds i true) w' ∧ ∀ w1, Keep w' w1 → wpAnyE P ops (mkQ N R E) (Cls W g Hs) fuel (l.setIfInBounds i true) a' w1) a w

theorem TA.all {rs : List Nat} (hr : Region.ready .any ops l = rs) (hne : rs.isEmpty = false) (h : ∀ i ∈ rs, Up P ops W N R E n D g Hs fuel l F H i) : TA P ops W N R E n D g Hs (fuel + 1) l F H :=
  fun hsel a w hst hc => ⟨fun h0 => by rw [hr] at h0; subst h0; simp at hne, fun i hi => h i (hr ▸ hi) hsel a w hst hc⟩

theorem TA.one (i : Nat) (hr : Region.ready .any ops l = [i]) (h : Up P ops W N R E n D g Hs fuel l F H i) : TA P ops W N R E n D g Hs (fuel + 1) l F H :=
  TA.all hr rfl fun j hj => by simp at hj; subst hj; exact h

theorem TA.two (i j : Nat) (hr : Region.ready .any ops l = [i, j]) (h : Up P ops W N R E n D g Hs fuel l F H i) (h' : Up P ops W N R E n D g Hs fuel l F H j) : TA P ops W N R E n D g Hs (fuel + 1) l F H :=
  TA.all hr rfl fun k hk => by simp at hk; rcases hk with rfl | rfl <;> assumption

/-- is number i one of those behind which the class says nothing, or do the blocks of the class stay? -/
def Stay (W : List Nat) (g : World) (Hs : HL) (i : Nat) (H' : HL) : Prop := W.contains i = true ∨ ∀ w, Own g w H' → Own g w Hs

theorem Stay.cls {i : Nat} {H' : HL} (hlt : i < l.size) (h : Stay W g Hs i H') {w : World} (ho : Own g w H') : Cls W g Hs (l.setIfInBounds i true) w := by
  intro hall
  rcases h with h | h
  · have hi : i ∈ W := by simpa using h
    have := List.all_eq_true.1 hall i hi
    simp [hlt] at this
  · exact h w ho

theorem ready_lt {i : Nat} {oi : Oper} (hi : ops[i]? = some oi) (hl : l.size = ops.size) : i < l.size := by
  rw [hl]; exact (Array.getElem?_eq_some_iff.1 hi).1

theorem Up.eff {i : Nat} {d : Nat} {op : Op} {ty : TypeId} {pos : String} {aft : Array Edge} {σ : Type} {v : σ → Value} {H' : σ → HL} (hi : ops[i]? = some ⟨some d, op, ty, pos, aft, none⟩) (hl : l.size = ops.size)
    (hy : Eff P F g H ⟨some d, op, ty, pos, aft, none⟩ σ v H') (hd : Nat.blt d n = true) (hs : ∀ s, Stay W g Hs i (H' s))
    (h : ∀ s, TA P ops W N R E n D g Hs fuel (l.setIfInBounds i true) ((d, v s) :: F) (H' s)) : Up P ops W N R E n D g Hs fuel l F H i := fun hsel a w hst _ => by
  unfold wpOp
  simp only [hi, wanted_none, if_true]
  refine .inl ?_
  unfold Oper.wp
  obtain ⟨s, w', hr, ho⟩ := hy a w hst.frame hst.own
  rw [hr]
  have hlt := ready_lt hi hl
  exact ⟨(hs s).cls hlt ho, fun w1 hk => h s hsel _ _ ((hst.put hd (v s)).world (hk _ _ ho)) ((hs s).cls hlt (hk _ _ ho))⟩

theorem Up.skp {i : Nat} {op : Op} {ty : TypeId} {pos : String} {aft : Array Edge} {H' : HL} (hi : ops[i]? = some ⟨none, op, ty, pos, aft, none⟩) (hl : l.size = ops.size)
    (hy : Skp P F g H ⟨none, op, ty, pos, aft, none⟩ H') (hs : Stay W g Hs i H')
    (h : TA P ops W N R E n D g Hs fuel (l.setIfInBounds i true) F H') : Up P ops W N R E n D g Hs fuel l F H i := fun hsel a w hst _ => by
  unfold wpOp
  simp only [hi, wanted_none, if_true]
  refine .inl ?_
  unfold Oper.wp
  obtain ⟨w', hr, ho⟩ := hy a w hst.frame hst.own
  rw [hr]
  have hlt := ready_lt hi hl
  exact ⟨hs.cls hlt ho, fun w1 hk => h hsel _ _ (hst.world (hk _ _ ho)) (hs.cls hlt (hk _ _ ho))⟩

theorem Up.val {i : Nat} {d : Nat} {op : Op} {ty : TypeId} {pos : String} {aft : Array Edge} {v : Value} (hi : ops[i]? = some ⟨some d, op, ty, pos, aft, none⟩) (hl : l.size = ops.size)
    (hy : Yl P F H ⟨some d, op, ty, pos, aft, none⟩ v) (hd : Nat.blt d n = true) (hs : Stay W g Hs i H)
    (h : TA P ops W N R E n D g Hs fuel (l.setIfInBounds i true) ((d, v) :: F) H) : Up P ops W N R E n D g Hs fuel l F H i := fun hsel a w hst _ => by
  unfold wpOp
  simp only [hi, wanted_none, if_true]
  refine .inl ?_
  unfold Oper.wp
  rw [hy a g w hst.frame hst.own]
  have hlt := ready_lt hi hl
  exact ⟨hs.cls hlt hst.own, fun w1 hk => h hsel _ _ ((hst.put hd v).world (hk _ _ hst.own)) (hs.cls hlt (hk _ _ hst.own))⟩

theorem Up.call {i : Nat} {d : Nat} {op : Op} {ty : TypeId} {pos : String} {aft : Array Edge} {f : FuncId} {args : Array Value} {σ : Type} {v : σ → Value} {H' : σ → HL} (hi : ops[i]? = some ⟨some d, op, ty, pos, aft, none⟩) (hl : l.size = ops.size)
    (hy : Cll P F H ⟨some d, op, ty, pos, aft, none⟩ f args) (hd : Nat.blt d n = true) (hc : Gives P f args g H σ v H') (hs : ∀ s, Stay W g Hs i (H' s))
    (h : ∀ s, TA P ops W N R E n D g Hs fuel (l.setIfInBounds i true) ((d, v s) :: F) (H' s)) : Up P ops W N R E n D g Hs fuel l F H i := fun hsel a w hst _ => by
  unfold wpOp
  simp only [hi, wanted_none, if_true]
  refine .inl ?_
  unfold Oper.wp
  rw [hy a g w hst.frame hst.own, Oper.upon_enter]
  have hlt := ready_lt hi hl
  refine (hc w hst.own).mono fun e w' ⟨s, he, ho⟩ => ?_
  subst he
  exact ⟨(hs s).cls hlt ho, fun w1 hk => h s hsel _ _ ((hst.put hd (v s)).world (hk _ _ ho)) ((hs s).cls hlt (hk _ _ ho))⟩

theorem TA.prune (F' : FL) (hs : FSub F F') (h : TA P ops W N R E n D g Hs fuel l F' H) : TA P ops W N R E n D g Hs fuel l F H :=
  fun hsel a w hst hc => h hsel a w ⟨hst.size, hst.defers, fun i v hi => hst.frame i v (hs.spec i v hi), hst.own⟩ hc
end
end Go.Proofs.YtlhncphipfkkjaaGreatDoor
