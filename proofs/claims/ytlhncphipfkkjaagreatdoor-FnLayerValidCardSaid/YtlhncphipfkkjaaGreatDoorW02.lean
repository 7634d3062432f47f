/- Laws of memory, slices, maps and bytes, and what the specification computes as functions on lists; conditions: each law's own. -/
import Derived.Test.YtlhncphipfkkjaaGreatDoorW01
import Derived.LaidEql
import Derived.ChangeKeysEq
/- Laws on single operations that read or write memory, over the lists of Own. No function of the program is looked at here. -/
namespace Go.Proofs.YtlhncphipfkkjaaGreatDoor
open Go

/-- a row of cells of elements of type t -/
abbrev oC (cs : List Value) (t : TypeId) : Obj := .cells ⟨cs⟩ t (0, 0)
abbrev pt (b off : Nat) : Value := .pointer (some ⟨b, off, none⟩)
abbrev sl (b off len cap : Nat) : Value := .slice (some ⟨b, off, none⟩) len cap
def u8V (c : UInt8) : Value := .int .u8 (c.toNat : Int)
/-- bytes as cells -/
def bV (l : List UInt8) : List Value := l.map u8V

def SizeIs (P : Program) (t : TypeId) (n : Nat) : Prop := (P.info? t).map (·.size) = some n
def BytesIs (P : Program) (t : TypeId) (n : Nat) : Prop := (P.info? t).map (·.bytes) = some n
def ZeroIs (P : Program) (t : TypeId) (v : Value) : Prop := (P.info? t).bind (·.zero) = some v

theorem SizeIs.of {P : Program} {t : TypeId} {n : Nat} (h : (P.info? t).map (·.size) = some n) : SizeIs P t n := h
theorem BytesIs.of {P : Program} {t : TypeId} {n : Nat} (h : (P.info? t).map (·.bytes) = some n) : BytesIs P t n := h
theorem ZeroIs.of {P : Program} {t : TypeId} {v : Value} (h : (P.info? t).bind (·.zero) = some v) : ZeroIs P t v := h

def aggD : TypeDesc → Bool
  | .struct _ | .array _ _ => true
  | _ => false

variable {P : Program} {F : FL} {g : World} {H : HL} {d : Option Nat} {ty : TypeId} {pos : String} {aft : Array Edge} {gd : Option (Nat × Bool)}

theorem run_sizeOf' {t : TypeId} {n : Nat} (h : SizeIs P t n) (w : World) : (sizeOf t).run P w = .ok n w := by
  obtain ⟨i, hi, rfl⟩ := Option.map_eq_some_iff.1 h
  simp [sizeOf, typeInfo, hi]
theorem run_bytes {t : TypeId} {n : Nat} (h : BytesIs P t n) : ∃ i, P.info? t = some i ∧ i.bytes = n := by
  obtain ⟨i, hi, rfl⟩ := Option.map_eq_some_iff.1 h
  exact ⟨i, hi, rfl⟩
theorem run_zero {t : TypeId} {v : Value} (h : ZeroIs P t v) (w : World) : (zeroValue t).run P w = .ok v w := by
  obtain ⟨i, hi, hz⟩ := Option.bind_eq_some_iff.1 h
  simp [zeroValue, typeInfo, hi, hz]
theorem run_isAgg' {t : TypeId} {D : TypeDesc} (h : P.underlying t = some D) (w : World) : (isAgg t).run P w = .ok (aggD D) w := by
  unfold isAgg
  simp only [Sem.run_bind, run_underlying h, Result.andThen_ok]
  cases D <;> rfl

theorem cell_at {w : World} {b : Nat} {cs : List Value} {t : TypeId} {fr : Nat × Nat} {off : Nat} {v : Value} (h : w.heap[b]? = some (.cells ⟨cs⟩ t fr)) (hv : cs[off]? = some v) : w.cell? ⟨b, off, none⟩ = some v := by
  simp only [World.cell?, h]
  simpa using hv

theorem cells_at {w : World} {b : Nat} {cs vs : List Value} {t : TypeId} {fr : Nat × Nat} {off : Nat} (h : w.heap[b]? = some (.cells ⟨cs⟩ t fr)) (hv : (cs.drop off).take vs.length = vs) : (loadCells ⟨b, off, none⟩ vs.length).run P w = .ok ⟨vs⟩ w := by
  refine run_loadCells_list w _ vs fun j v hj => ?_
  rw [Addr.add_lit]
  refine cell_at h ?_
  have h1 : ((cs.drop off).take vs.length)[j]? = some v := by rw [hv]; exact hj
  have hlt : j < vs.length := (List.getElem?_eq_some_iff.1 hj).1
  rw [List.getElem?_take_of_lt hlt, List.getElem?_drop] at h1
  exact h1

/-! ## Loads -/
section
variable {t te : TypeId} {D : TypeDesc} {x : Operand} {b off : Nat} {cs : List Value} {fr : Nat × Nat} {K : Obj → HL}

theorem Yl.load1 {v : Value} (hu : P.underlying t = some D) (hd : aggD D = false) (hx : ev F x = some (pt b off)) (hF : Foc H b (.cells ⟨cs⟩ te fr) K) (hv : cs[off]? = some v) : Yl P F H ⟨d, .load t x, ty, pos, aft, gd⟩ v := fun a g w hf ho => by
  have hb := ho.at hF
  simp [execOp, hf.eval hx, Instr.loadAt, Instr.sureAddr, loadVar, run_isAgg' hu, hd, run_load, cell_at hb hv]

theorem Yl.loadA {vs : List Value} (hu : P.underlying t = some D) (hd : aggD D = true) (hz : SizeIs P t vs.length) (hx : ev F x = some (pt b off)) (hF : Foc H b (.cells ⟨cs⟩ te fr) K) (hv : (cs.drop off).take vs.length = vs) :
    Yl P F H ⟨d, .load t x, ty, pos, aft, gd⟩ (.agg ⟨vs⟩) := fun a g w hf ho => by
  have hb := ho.at hF
  simp [execOp, hf.eval hx, Instr.loadAt, Instr.sureAddr, loadVar, run_isAgg' hu, hd, run_sizeOf' hz, cells_at hb hv]

/-! ## Results that lie in memory -/
theorem run_loadVarA {w : World} {vs : List Value} (hu : P.underlying t = some D) (hd : aggD D = true) (hz : SizeIs P t vs.length) (hb : w.heap[b]? = some (.cells ⟨cs⟩ te fr)) (hv : (cs.drop off).take vs.length = vs) : (loadVar t ⟨b, off, none⟩).run P w = .ok (.agg ⟨vs⟩) w := by
  simp [loadVar, run_isAgg' hu, hd, run_sizeOf' hz, cells_at hb hv]

section
variable {n : Nat} {fn : Func} {σ : Type} {v : σ → Value} {H' : σ → HL} {N : Act → World → Prop} {E : Nat → Act → World → Prop} {vs : List Value} {r u : Nat} {y z : Value}
theorem TC.backC {c : Nat} (s : σ) (hres : fn.results = #[.cell c t]) (hc : F.get c = some (pt b off)) (hu : P.underlying t = some D) (hd : aggD D = true) (hz : SizeIs P t vs.length) (hF : Foc H b (.cells ⟨cs⟩ te fr) K) (hv : (cs.drop off).take vs.length = vs)
    (hs : v s = .agg ⟨vs⟩) (hH : ∀ w, Own g w H → Own g w (H' s)) : TC P (mkQ N (Back P fn g σ v H') E) n [] g .ret F H :=
  TC.ret fun a w hst => ⟨s, hst.defers, by
    have h1 := hst.frame c _ hc
    have h2 := run_loadVarA (P := P) hu hd hz (hst.own.at hF) hv
    simp [results, hres, h1, asAddr, h2, hs], hH w hst.own⟩
theorem TC.backC1 {c : Nat} (s : σ) (hres : fn.results = #[.cell c t, .tmp r]) (hc : F.get c = some (pt b off)) (hy : F.get r = some y) (hu : P.underlying t = some D) (hd : aggD D = true) (hz : SizeIs P t vs.length) (hF : Foc H b (.cells ⟨cs⟩ te fr) K) (hv : (cs.drop off).take vs.length = vs)
    (hs : v s = .tuple #[.agg ⟨vs⟩, y]) (hH : ∀ w, Own g w H → Own g w (H' s)) : TC P (mkQ N (Back P fn g σ v H') E) n [] g .ret F H :=
  TC.ret fun a w hst => ⟨s, hst.defers, by
    have h1 := hst.frame c _ hc
    have h3 := hst.frame r _ hy
    have h2 := run_loadVarA (P := P) hu hd hz (hst.own.at hF) hv
    simp [results, hres, h1, h3, asAddr, h2, hs], hH w hst.own⟩
theorem TC.backC2 {c : Nat} (s : σ) (hres : fn.results = #[.cell c t, .tmp r, .tmp u]) (hc : F.get c = some (pt b off)) (hy : F.get r = some y) (hz' : F.get u = some z) (hu : P.underlying t = some D) (hd : aggD D = true) (hz : SizeIs P t vs.length) (hF : Foc H b (.cells ⟨cs⟩ te fr) K) (hv : (cs.drop off).take vs.length = vs)
    (hs : v s = .tuple #[.agg ⟨vs⟩, y, z]) (hH : ∀ w, Own g w H → Own g w (H' s)) : TC P (mkQ N (Back P fn g σ v H') E) n [] g .ret F H :=
  TC.ret fun a w hst => ⟨s, hst.defers, by
    have h1 := hst.frame c _ hc
    have h3 := hst.frame r _ hy
    have h4 := hst.frame u _ hz'
    have h2 := run_loadVarA (P := P) hu hd hz (hst.own.at hF) hv
    simp [results, hres, h1, h3, h4, asAddr, h2, hs], hH w hst.own⟩
end

/-! ## Stores -/
theorem oneCell_ne {v : Value} (h : v.oneCell' = true) : v.cells = #[v] := by cases v <;> first | rfl | cases h

theorem Own.setRow {w : World} {cs' : List Value} (ho : Own g w H) (hF : Foc H b (.cells ⟨cs⟩ te fr) K) : Own g (w.setRow b ⟨cs'⟩) (K (.cells ⟨cs'⟩ te fr)) :=
  ho.upd hF (setRow_heap w b _ _ _ _ (ho.at hF)) (fun c hc => setRow_other w b c _ hc) rfl rfl

theorem run_store_row {w : World} {v : Value} (hb : w.heap[b]? = some (oC cs te)) (hlt : off < cs.length) (h1 : v.oneCell' = true) :
    (store ⟨b, off, none⟩ v).run P w = .ok () (w.setRow b ⟨cs.set off v⟩) := by
  rw [run_store P w _ v .plain h1]
  have hc : w.cell? ⟨b, off, none⟩ = some cs[off] := cell_at hb (List.getElem?_eq_getElem hlt)
  have hfz : w.frozen? ⟨b, off, none⟩ = false := by simp [World.frozen?, hb]
  rw [hc]
  simp only [hfz, Bool.false_eq_true, if_false]
  rw [setCell_eq_setRow w b off _ _ _ v hb]
  simp

theorem Skp.store1 {v : Value} {y : Operand} {cs' : List Value} (hz : SizeIs P t 1) (hx : ev F x = some (pt b off)) (hy : ev F y = some v) (h1 : v.oneCell' = true)
    (hF : Foc H b (oC cs te) K) (hlt : off < cs.length) (hs : cs.set off v = cs') : Skp P F g H ⟨d, .store t x y, ty, pos, aft, gd⟩ (K (oC cs' te)) := fun a w hf ho => by
  subst hs
  refine ⟨_, ?_, ho.setRow hF⟩
  have hb := ho.at hF
  have hst := run_store_row (P := P) hb hlt h1
  have hadd : (⟨b, off, none⟩ : Addr).add 0 = ⟨b, off, none⟩ := Addr.add_zero' _
  simp [execOp, hf.eval hx, hf.eval hy, Instr.storeAt, Instr.sureAddr, storeVar, oneCell_ne h1, run_sizeOf' hz, storeCells, hadd, hst]

/-- vs laid over cs from off on -/
def lay (cs : List Value) (off : Nat) (vs : List Value) : List Value := cs.take off ++ vs ++ cs.drop (off + vs.length)

theorem run_store_cells {w : World} {vs : List Value} (hb : w.heap[b]? = some (oC cs te)) (hlt : off + vs.length ≤ cs.length) (h1 : ∀ v ∈ vs, v.oneCell' = true) :
    (storeCells ⟨b, off, none⟩ vs).run P w = .ok () (w.setRow b ⟨lay cs off vs⟩) := by
  have := run_storeCells_at (P := P) b off te vs 0 ⟨cs⟩ w hb (by simpa using hlt) h1
  simpa [lay] using this

theorem Skp.storeA {vs : List Value} {y : Operand} {cs' : List Value} (hz : SizeIs P t vs.length) (hx : ev F x = some (pt b off)) (hy : ev F y = some (.agg ⟨vs⟩)) (h1 : vs.all Value.oneCell' = true)
    (hF : Foc H b (oC cs te) K) (hlt : off + vs.length ≤ cs.length) (hs : lay cs off vs = cs') : Skp P F g H ⟨d, .store t x y, ty, pos, aft, gd⟩ (K (oC cs' te)) := fun a w hf ho => by
  subst hs
  refine ⟨_, ?_, ho.setRow hF⟩
  have hb := ho.at hF
  have hst := run_store_cells (P := P) hb hlt (List.all_eq_true.1 h1)
  simp [execOp, hf.eval hx, hf.eval hy, Instr.storeAt, Instr.sureAddr, storeVar, Value.cells, run_sizeOf' hz, hst]

/-! ## Addresses -/
theorem Yl.fieldAddr {s : TypeId} {fs : Array Field} {f k m o : Nat} (hu : P.underlying s = some (.struct fs)) (hf : (fs[f]?).map (fun f => (f.type, f.offset)) = some (k, m)) {z : Nat} (hz : SizeIs P k (z + 1)) (hx : ev F x = some (pt b off)) (ho : off + m = o) :
    Yl P F H ⟨d, .fieldAddr s x f, ty, pos, aft, gd⟩ (pt b o) := fun a g w hF _ => by
  subst ho
  obtain ⟨fd, hfd, he⟩ := Option.map_eq_some_iff.1 hf
  simp only [Prod.mk.injEq] at he
  obtain ⟨rfl, rfl⟩ := he
  simp [execOp, hF.eval hx, Instr.fieldAt, Instr.sureAddr, run_underlying hu, hfd, fieldPlace, run_sizeOf' hz]
  exact Addr.add_lit _ _ _

theorem Yl.idxAddrA {n e : Nat} {y : Operand} {k : IntKind} {i : Int} {j z o : Nat} (hu : P.underlying t = some (.array n e)) (hz : SizeIs P e z) (hx : ev F x = some (pt b off)) (hy : ev F y = some (.int k i)) (hi : i = (j : Int)) (hj : j < n) (ho : off + j * z = o) :
    Yl P F H ⟨d, .indexAddr t x y, ty, pos, aft, gd⟩ (pt b o) := fun a g w hF _ => by
  subst ho; subst hi
  simp [execOp, hF.eval hx, hF.eval hy, Instr.indexAt, Instr.sureAddr, asIntOf, run_underlying hu, run_sizeOf' hz, hj]
  exact Addr.add_lit _ _ _

theorem Yl.idxAddrS {n c e : Nat} {y : Operand} {k : IntKind} {i : Int} {j z o : Nat} (hu : P.underlying t = some (.slice e)) (hz : SizeIs P e z) (hx : ev F x = some (sl b off n c)) (hy : ev F y = some (.int k i)) (hi : i = (j : Int)) (hj : j < n) (ho : off + j * z = o) :
    Yl P F H ⟨d, .indexAddr t x y, ty, pos, aft, gd⟩ (pt b o) := fun a g w hF _ => by
  subst ho; subst hi
  simp [execOp, hF.eval hx, hF.eval hy, Instr.indexAt, asIntOf, run_underlying hu, run_sizeOf' hz, hj]
  exact Addr.add_lit _ _ _
end

/-! ## Slices -/
section
variable {t e : TypeId} {x : Operand} {oa : Option Addr} {n c : Nat}
theorem Yl.lenL (hu : P.underlying t = some (.slice e)) (hx : ev F x = some (.slice oa n c)) : Yl P F H ⟨d, .call { callee := .builtin .len, args := #[x], argTypes := #[t] }, ty, pos, aft, gd⟩ (.int .i64 (n : Int)) := fun _ g w hf _ => by
  simp [execOp, resolve, invoke, builtin, hf.eval hx, Builtin.len_, run_underlying hu, goInt]
theorem Yl.capL (hu : P.underlying t = some (.slice e)) (hx : ev F x = some (.slice oa n c)) : Yl P F H ⟨d, .call { callee := .builtin .cap, args := #[x], argTypes := #[t] }, ty, pos, aft, gd⟩ (.int .i64 (c : Int)) := fun _ g w hf _ => by
  simp [execOp, resolve, invoke, builtin, hf.eval hx, Builtin.cap_, run_underlying hu, goInt]
theorem Yl.min2 {k : IntKind} {ta : Array TypeId} {y : Operand} {m i r : Int} (hx : ev F x = some (.int k m)) (hy : ev F y = some (.int k i)) (hr : (if i < m then i else m) = r) : Yl P F H ⟨d, .call { callee := .builtin .min, args := #[x, y], argTypes := ta }, ty, pos, aft, gd⟩ (.int k r) := fun _ g w hf _ => by
  subst hr
  simp [execOp, resolve, invoke, builtin, hf.eval hx, hf.eval hy, Builtin.min_, Builtin.min2]
end

/-! ## Slicing -/
section
variable {t e : TypeId} {x y z : Operand} {k k' : IntKind} {m m' : Int} {b off n c i j sz o : Nat}
/-- where a slice of a slice begins: not behind the end -/
def adv (off c l sz : Nat) : Nat := if c = l then off else off + l * sz
theorem adv_run (b off c l sz : Nat) : (if c = l then (some (⟨b, off, none⟩ : Addr)) else (some (⟨b, off, none⟩ : Addr)).map (·.add (l * sz))) = some ⟨b, adv off c l sz, none⟩ := by
  unfold adv; split
  · rfl
  · simp only [Option.map_some, Addr.add_lit]
theorem Yl.slcH (hu : P.underlying t = some (.slice e)) (hz : SizeIs P e sz) (hx : ev F x = some (sl b off n c)) (hy : ev F y = some (.int k m)) (hm : m = (j : Int)) (hj : j ≤ c) :
    Yl P F H ⟨d, .slice t x none (some y) none, ty, pos, aft, gd⟩ (sl b (adv off c 0 sz) j c) := fun _ g w hf _ => by
  subst hm
  have := adv_run b off c 0 sz
  simp [execOp, hf.eval hx, hf.eval hy, Instr.sliceAt, Instr.slice, Instr.sliceBounds, Instr.sliceBound, asIntOf, run_underlying hu, run_sizeOf' hz, hj] at this ⊢
  exact this
theorem Yl.slcL (hu : P.underlying t = some (.slice e)) (hz : SizeIs P e sz) (hx : ev F x = some (sl b off n c)) (hy : ev F y = some (.int k m)) (hm : m = (i : Int)) (hi : i ≤ n) :
    Yl P F H ⟨d, .slice t x (some y) none none, ty, pos, aft, gd⟩ (sl b (adv off c i sz) (n - i) (c - i)) := fun _ g w hf _ => by
  subst hm
  have := adv_run b off c i sz
  simp [execOp, hf.eval hx, hf.eval hy, Instr.sliceAt, Instr.slice, Instr.sliceBounds, Instr.sliceBound, asIntOf, run_underlying hu, run_sizeOf' hz, hi] at this ⊢
  exact this
theorem Yl.slcLH (hu : P.underlying t = some (.slice e)) (hz : SizeIs P e sz) (hx : ev F x = some (sl b off n c)) (hy : ev F y = some (.int k m)) (hw : ev F z = some (.int k' m')) (hm : m = (i : Int)) (hm' : m' = (j : Int)) (hi : i ≤ j) (hj : j ≤ c) :
    Yl P F H ⟨d, .slice t x (some y) (some z) none, ty, pos, aft, gd⟩ (sl b (adv off c i sz) (j - i) (c - i)) := fun _ g w hf _ => by
  subst hm; subst hm'
  have := adv_run b off c i sz
  simp [execOp, hf.eval hx, hf.eval hy, hf.eval hw, Instr.sliceAt, Instr.slice, Instr.sliceBounds, Instr.sliceBound, asIntOf, run_underlying hu, run_sizeOf' hz, hi, hj] at this ⊢
  exact this

/-- slicing an array variable -/
theorem adv_runA (b off c l sz : Nat) : (if c = l then (⟨b, off, none⟩ : Addr) else (⟨b, off, none⟩ : Addr).add (l * sz)) = ⟨b, adv off c l sz, none⟩ := by
  unfold adv; split
  · rfl
  · exact Addr.add_lit _ _ _
theorem Yl.arr (hu : P.underlying t = some (.array n e)) (hz : SizeIs P e sz) (hx : ev F x = some (pt b off)) (hn : adv off n 0 sz = o) :
    Yl P F H ⟨d, .slice t x none none none, ty, pos, aft, gd⟩ (sl b o n n) := fun _ g w hf _ => by
  subst hn
  have := adv_runA b off n 0 sz
  simp [execOp, hf.eval hx, Instr.sliceAt, Instr.sureAddr, Instr.sliceBounds, run_underlying hu, run_sizeOf' hz] at this ⊢
  exact this
theorem Yl.arrH (hu : P.underlying t = some (.array n e)) (hz : SizeIs P e sz) (hx : ev F x = some (pt b off)) (hy : ev F y = some (.int k m)) (hm : m = (j : Int)) (hj : j ≤ n) (hn : adv off n 0 sz = o) :
    Yl P F H ⟨d, .slice t x none (some y) none, ty, pos, aft, gd⟩ (sl b o j n) := fun _ g w hf _ => by
  subst hn; subst hm
  have := adv_runA b off n 0 sz
  simp [execOp, hf.eval hx, hf.eval hy, Instr.sliceAt, Instr.sureAddr, Instr.sliceBounds, Instr.sliceBound, asIntOf, run_underlying hu, run_sizeOf' hz, hj] at this ⊢
  exact this
theorem Yl.arrLH (hu : P.underlying t = some (.array n e)) (hz : SizeIs P e sz) (hx : ev F x = some (pt b off)) (hy : ev F y = some (.int k m)) (hw : ev F z = some (.int k' m')) (hm : m = (i : Int)) (hm' : m' = (j : Int)) (hi : i ≤ j) (hj : j ≤ n) (hn : adv off n i sz = o) :
    Yl P F H ⟨d, .slice t x (some y) (some z) none, ty, pos, aft, gd⟩ (sl b o (j - i) (n - i)) := fun _ g w hf _ => by
  subst hn; subst hm; subst hm'
  have := adv_runA b off n i sz
  simp [execOp, hf.eval hx, hf.eval hy, hf.eval hw, Instr.sliceAt, Instr.sureAddr, Instr.sliceBounds, Instr.sliceBound, asIntOf, run_underlying hu, run_sizeOf' hz, hi, hj] at this ⊢
  exact this
end

/-! ## New blocks -/
section
variable {e t : TypeId} {x y : Operand}
theorem Eff.alloc {z : Value} {zs : List Value} (hz : ZeroIs P e z) (hc : z.cells = ⟨zs⟩) : Eff P F g H ⟨d, .alloc e, ty, pos, aft, gd⟩ Nat (fun b => pt b 0) (fun b => (b, oC zs e) :: H) := fun _ w _ ho => by
  refine ⟨w.heap.size, w.alloc (oC zs e), ?_, ho.alloc _⟩
  simp [execOp, Instr.alloc, run_zero hz, newVar, newRow, hc]
theorem Eff.box {v : Value} {vs : List Value} (hx : ev F x = some v) (hc : v.cells = ⟨vs⟩) : Eff P F g H ⟨d, .box e x, ty, pos, aft, gd⟩ Nat (fun b => pt b 0) (fun b => (b, oC vs e) :: H) := fun _ w hf ho => by
  refine ⟨w.heap.size, w.alloc (oC vs e), ?_, ho.alloc _⟩
  simp [execOp, hf.eval hx, Instr.box, newVar, newRow, hc]

theorem madeCells_one (v : Value) (n : Nat) : madeCells #[v] n = ⟨List.replicate n v⟩ := by
  apply Array.ext'
  simp only [madeCells, Array.toList_map, Array.toList_range]
  apply List.ext_getElem?
  intro j
  by_cases hj : j < n
  · simp [hj, Nat.mod_one]
  · simp [hj]

theorem Eff.make {z : Value} {i j : Nat} {k k' : IntKind} {m m' : Int} {bs : Nat} (hu : P.underlying t = some (.slice e)) (hs : SizeIs P e 1) (hb : BytesIs P e bs) (hz : ZeroIs P e z) (hc : z.cells = #[z])
    (hx : ev F x = some (.int k m)) (hy : ev F y = some (.int k' m')) (hm : m = (i : Int)) (hm' : m' = (j : Int)) (hi : i ≤ j) (hl : bs * j ≤ 281474976710656) (hj : j ≤ 9223372036854775807) :
    Eff P F g H ⟨d, .makeSlice t x y, ty, pos, aft, gd⟩ Nat (fun b => sl b 0 i j) (fun b => (b, oC (List.replicate j z) e) :: H) := fun _ w hf ho => by
  subst hm; subst hm'
  obtain ⟨inf, hinf, rfl⟩ := run_bytes hb
  obtain ⟨inf', hinf', hz'⟩ := Option.bind_eq_some_iff.1 hz
  obtain rfl : inf' = inf := Option.some.inj (hinf'.symm.trans hinf)
  have hs' : inf'.size = 1 := by
    obtain ⟨q, hq, h1⟩ := Option.map_eq_some_iff.1 hs
    obtain rfl : q = inf' := Option.some.inj (hq.symm.trans hinf)
    exact h1
  have hr := run_make (P := P) w t e inf' z hu hinf hz' k k' (i : Int) (j : Int) (by omega) (by omega) (by have : ((inf'.bytes * j : Nat) : Int) ≤ 281474976710656 := by omega
                                                                                                           rwa [Int.natCast_mul] at this) (by omega)
  simp only [Int.toNat_natCast, hs', Nat.mul_one, hc, madeCells_one] at hr
  refine ⟨w.heap.size, w.alloc (oC (List.replicate j z) e), ?_, ho.alloc _⟩
  simp only [execOp, hf.eval hx, hf.eval hy, Sem.run_bind, hr, Result.andThen_ok]
  rfl
end

/-! ## Bytes and strings -/
section
variable {src dst e : TypeId} {x : Operand} {b off n c : Nat} {cs : List Value} {te : TypeId} {fr : Nat × Nat} {K : Obj → HL}
theorem fold_push : ∀ (l : List UInt8) (s : ByteArray), (l.map fun c => (c.toNat : Int)).foldl (fun r n => r.push (UInt8.ofNat n.toNat)) s = ByteArray.mk (s.data.toList ++ l).toArray
  | [], s => by simp
  | c :: l, s => by
    simp only [List.map_cons, List.foldl_cons, Int.toNat_natCast, UInt8.ofNat_toNat]
    rw [fold_push l]
    simp [ByteArray.push]
theorem Yl.str {l : List UInt8} (hs : P.underlying src = some (.slice e)) (he : P.underlying e = some (.int .u8)) (hd : P.underlying dst = some .string) (hx : ev F x = some (sl b off n c)) (hF : Foc H b (.cells ⟨cs⟩ te fr) K)
    (hl : l.length = n) (hv : (cs.drop off).take n = bV l) : Yl P F H ⟨d, .convert src dst x, ty, pos, aft, gd⟩ (vS l) := fun a g w hf ho => by
  subst hl
  have hb := ho.at hF
  have hlen : (bV l).length = l.length := by simp [bV]
  have hc := cells_at (P := P) hb (vs := bV l) (off := off) (by rw [hlen]; exact hv)
  rw [hlen] at hc
  have hmap : (⟨bV l⟩ : Array Value) = ((l.map fun c => (c.toNat : Int)).map (Value.int .u8)).toArray := by
    congr 1; simp [bV, u8V, List.map_map]
  rw [hmap] at hc
  have hr := run_bytesToString w ⟨b, off, none⟩ l.length c _ hc
  rw [fold_push] at hr
  simp [execOp, hf.eval hx, run_convert_bytes_string w src dst e _ _ _ hs he hd, hr]
theorem Yl.strNil (hs : P.underlying src = some (.slice e)) (he : P.underlying e = some (.int .u8)) (hd : P.underlying dst = some .string) (hx : ev F x = some (.slice none n c)) : Yl P F H ⟨d, .convert src dst x, ty, pos, aft, gd⟩ (vS []) := fun a g w hf _ => by
  simp [execOp, hf.eval hx, run_convert_bytes_string w src dst e _ _ _ hs he hd, Conv.bytesToString]
  rfl
end

/-! ## Slices that are written out -/
def idxFrom {α : Type} : Nat → List α → List (Nat × α)
  | _, [] => []
  | k, x :: xs => (k, x) :: idxFrom (k + 1) xs

theorem idxFrom_map {α β : Type} (f : α → β) : ∀ (k : Nat) (l : List α), (idxFrom k l).map (fun p => (p.1, f p.2)) = idxFrom k (l.map f)
  | _, [] => rfl
  | k, x :: xs => by simp only [idxFrom, List.map_cons, idxFrom_map f (k + 1) xs]

theorem set_fold : ∀ (l : List Value) (j off : Nat) (cs : Array Value), off + j + l.length ≤ cs.size →
    ((l.zipIdx j).foldl (fun cs (c, j) => cs.setIfInBounds (off + j) c) cs).toList = cs.toList.take (off + j) ++ l ++ cs.toList.drop (off + j + l.length)
  | [], j, off, cs, _ => by simp
  | v :: l, j, off, cs, h => by
    simp only [List.length_cons] at h
    simp only [List.zipIdx_cons, List.foldl_cons]
    rw [set_fold l (j + 1) off _ (by simp; omega)]
    simp only [Array.toList_setIfInBounds, List.length_cons]
    rw [← Nat.add_assoc, List.take_add_one, List.drop_set_of_lt (by omega), List.take_set_of_le (by omega)]
    have hlt : off + j < cs.toList.length := by simp; omega
    rw [List.getElem?_set_self hlt]
    simp [List.append_assoc, Nat.add_assoc, Nat.add_comm 1]

theorem set_fold_arr (va : Array Value) (off : Nat) (cs : Array Value) (h : off + va.size ≤ cs.size) :
    va.zipIdx.foldl (fun cs (c, j) => cs.setIfInBounds (off + j) c) cs = ⟨lay cs.toList off va.toList⟩ := by
  apply Array.ext'
  rw [← Array.foldl_toList, Array.toList_zipIdx]
  have := set_fold va.toList 0 off cs (by simpa using h)
  simp only [Nat.add_zero] at this
  rw [this]; rfl

theorem fill_seq (sz : Nat) : ∀ (vs : List Value) (k : Nat) (cs : List Value), (∀ v ∈ vs, v.cells.size = sz) → (k + vs.length) * sz ≤ cs.length →
    Instr.fill (fun i => some (i * sz, sz)) ⟨cs⟩ (idxFrom k vs) = some ⟨cs.take (k * sz) ++ vs.flatMap (fun v => v.cells.toList) ++ cs.drop ((k + vs.length) * sz)⟩
  | [], k, cs, _, _ => by simp [idxFrom, Instr.fill]
  | v :: vs, k, cs, h1, hl => by
    have hv := h1 v List.mem_cons_self
    simp only [List.length_cons] at hl
    have hle : (k + 1) * sz ≤ (k + (vs.length + 1)) * sz := Nat.mul_le_mul_right _ (by omega)
    have hk1 : (k + 1) * sz = k * sz + sz := Nat.succ_mul k sz
    have h2 : k * sz + sz ≤ cs.length := by omega
    have hnot : ¬ (cs.length < k * sz + sz) := by omega
    simp only [idxFrom, Instr.fill]
    rw [set_fold_arr v.cells (k * sz) ⟨cs⟩ (by rw [hv]; simpa using h2)]
    have hsz : (v.cells.size ≠ sz || decide (k * sz + v.cells.size > (Array.mk cs).size)) = false := by simp [hv]; omega
    simp only [hsz, Bool.false_eq_true, if_false]
    have hll : (lay cs (k * sz) v.cells.toList).length = cs.length := by
      simp only [lay, List.length_append, List.length_take, List.length_drop, Array.length_toList, hv]; omega
    rw [fill_seq sz vs (k + 1) _ (fun u hu => h1 u (List.mem_cons_of_mem _ hu)) (by rw [hll, Nat.add_assoc, Nat.add_comm 1]; exact hl)]
    congr 2
    have e1 : (lay cs (k * sz) v.cells.toList).take ((k + 1) * sz) = cs.take (k * sz) ++ v.cells.toList := by
      unfold lay
      rw [List.take_append_of_le_length (by simp [hv]; omega)]
      rw [List.take_of_length_le (by simp [hv]; omega)]
    have e2 : (lay cs (k * sz) v.cells.toList).drop ((k + 1 + vs.length) * sz) = cs.drop ((k + (vs.length + 1)) * sz) := by
      unfold lay
      have hx : (k + 1 + vs.length) * sz = (k + (vs.length + 1)) * sz := by congr 1; omega
      rw [hx, List.drop_append, List.drop_eq_nil_of_le (by simp [hv]; omega)]
      simp only [List.nil_append, List.length_append, List.length_take, Array.length_toList, hv, List.drop_drop]
      have hx2 : (k + (vs.length + 1)) * sz = k * sz + (vs.length + 1) * sz := Nat.add_mul _ _ _
      have hx3 : (vs.length + 1) * sz = vs.length * sz + sz := Nat.succ_mul _ _
      congr 1
      omega
    rw [e1, e2]
    simp [List.append_assoc]

theorem range_cells (zs : Array Value) (n : Nat) : ((Array.range n).map (zs[· % zs.size]!)).toList.length = n := by simp

theorem Eff.lits {t e : TypeId} {n sz : Nat} {z : Value} {parts : Array (Nat × Operand)} (xs : List Operand) {vs cs : List Value} (hu : P.underlying t = some (.slice e)) (hs : SizeIs P e sz) (hz : ZeroIs P e z)
    (hp : parts = (idxFrom 0 xs).toArray) (hx : evs F xs vs) (hn : vs.length = n) (h1 : ∀ v ∈ vs, v.cells.size = sz) (hc : vs.flatMap (fun v => v.cells.toList) = cs) (hl : Nat.ble (n * sz) 16777216 = true) :
    Eff P F g H ⟨d, .buildSlice t n parts, ty, pos, aft, gd⟩ Nat (fun b => sl b 0 n n) (fun b => (b, oC cs e) :: H) := fun a w hf ho => by
  refine ⟨w.heap.size, w.alloc (oC cs e), ?_, ho.alloc _⟩
  subst hc; subst hn; subst hp
  have hmap := evs_map hf hx
  have hle : ¬ (16777216 < vs.length * sz) := by have := Nat.le_of_ble_eq_true hl; omega
  have hparts : ((idxFrom 0 xs).toArray.map fun (p : Nat × Operand) => (p.1, a.eval p.2)).toList = idxFrom 0 vs := by
    simp only [List.map_toArray]
    rw [← hmap, ← idxFrom_map]
  have hfill : ∀ zs : Array Value, Instr.fill (fun i => some (i * sz, sz)) ((Array.range (vs.length * sz)).map (zs[· % zs.size]!)) (idxFrom 0 vs) = some ⟨vs.flatMap (fun v => v.cells.toList)⟩ := by
    intro zs
    have := fill_seq sz vs 0 ((Array.range (vs.length * sz)).map (zs[· % zs.size]!)).toList h1 (by rw [range_cells, Nat.zero_add]; exact Nat.le_refl _)
    have e0 : (Array.mk ((Array.range (vs.length * sz)).map (zs[· % zs.size]!)).toList) = (Array.range (vs.length * sz)).map (zs[· % zs.size]!) := rfl
    rw [e0] at this
    rw [this]
    simp only [Nat.zero_mul, List.take_zero, List.nil_append, Nat.zero_add]
    rw [List.drop_eq_nil_of_le (by rw [range_cells]; exact Nat.le_refl _)]
    simp
  have hrun : (Instr.buildSlice t vs.length ((idxFrom 0 xs).toArray.map fun (p : Nat × Operand) => (p.1, a.eval p.2))).run P w = .ok (sl w.heap.size 0 vs.length vs.length) (w.alloc (oC (vs.flatMap (fun v => v.cells.toList)) e)) := by
    unfold Instr.buildSlice
    simp only [Sem.run_bind, run_underlying hu, Result.andThen_ok, run_sizeOf' hs, hparts]
    have hp24 : ¬ (vs.length * sz > 2 ^ 24) := by omega
    simp only [if_neg hp24]
    by_cases h0 : vs.length * sz = 0
    · simp only [if_pos h0, hfill]
      simp [newRow]
    · simp only [if_neg h0, Sem.run_bind, run_zero hz, Sem.run_pure, Result.andThen_ok, hfill]
      simp [newRow]
  simp only [execOp, Sem.run_bind]
  rw [show (Array.map (fun x => match x with | (i, x) => (i, a.eval x)) (idxFrom 0 xs).toArray) = ((idxFrom 0 xs).toArray.map fun (p : Nat × Operand) => (p.1, a.eval p.2)) from rfl]
  rw [hrun]
  rfl

theorem cells_ones {vs : List Value} (h : vs.all Value.oneCell' = true) : (∀ v ∈ vs, v.cells.size = 1) ∧ vs.flatMap (fun v => v.cells.toList) = vs := by
  induction vs with
  | nil => exact ⟨by simp, rfl⟩
  | cons v vs ih =>
    simp only [List.all_cons, Bool.and_eq_true] at h
    obtain ⟨h2, h3⟩ := ih h.2
    have hv := oneCell_ne h.1
    refine ⟨fun u hu => ?_, ?_⟩
    · rcases List.mem_cons.1 hu with rfl | hu
      · rw [hv]; rfl
      · exact h2 u hu
    · simp only [List.flatMap_cons, hv, h3]; rfl

theorem Eff.lits1 {t e : TypeId} {n : Nat} {z : Value} {parts : Array (Nat × Operand)} (xs : List Operand) {vs : List Value} (hu : P.underlying t = some (.slice e)) (hs : SizeIs P e 1) (hz : ZeroIs P e z)
    (hp : parts = (idxFrom 0 xs).toArray) (hx : evs F xs vs) (hn : vs.length = n) (h1 : vs.all Value.oneCell' = true) (hl : Nat.ble (n * 1) 16777216 = true) :
    Eff P F g H ⟨d, .buildSlice t n parts, ty, pos, aft, gd⟩ Nat (fun b => sl b 0 n n) (fun b => (b, oC vs e) :: H) :=
  Eff.lits xs hu hs hz hp hx hn (cells_ones h1).1 (cells_ones h1).2 hl

/-! ## Append -/
/-- a slice that is nil, or has a block of its own -/
def SlOf (te : TypeId) (sz : Nat) (xs : List Value) (v : Value) (H1 : HL) : Prop :=
  (v = .slice none 0 0 ∧ xs = [] ∧ H1 = []) ∨
  ∃ b off n cap cs, v = sl b off n cap ∧ H1 = [(b, oC cs te)] ∧ n ≤ cap ∧ off + cap * sz ≤ cs.length ∧ (cs.drop off).take (n * sz) = xs

theorem SlOf.nil {te : TypeId} {sz : Nat} : SlOf te sz [] (.slice none 0 0) [] := .inl ⟨rfl, rfl, rfl⟩

/-- what is appended, or copied: m elements, these cells -/
def Src (P : Program) (g : World) (H : HL) (sz m : Nat) (x : Value) (news : List Value) : Prop :=
  (∀ w, (Builtin.lenOf x).run P w = .ok m w) ∧ ∀ w, Own g w H → ∀ k, k * sz ≤ news.length → (Builtin.firstCells sz k x).run P w = .ok ⟨news.take (k * sz)⟩ w

theorem Src.sl {sz m c b off : Nat} {cs news : List Value} {te : TypeId} {fr : Nat × Nat} {K : Obj → HL} (hF : Foc H b (.cells ⟨cs⟩ te fr) K) (hv : (cs.drop off).take (m * sz) = news) : Src P g H sz m (sl b off m c) news := by
  refine ⟨fun w => rfl, fun w ho k hk => ?_⟩
  have hb := ho.at hF
  have hle : news.length ≤ m * sz := by rw [← hv]; exact List.length_take_le _ _
  have hlen : (news.take (k * sz)).length = k * sz := List.length_take_of_le hk
  have := cells_at (P := P) hb (vs := news.take (k * sz)) (off := off) (by rw [hlen]; rw [← hv, List.take_take, Nat.min_eq_left (by omega)])
  rw [hlen] at this
  exact this

theorem Src.nil {sz c : Nat} : Src P g H sz 0 (.slice none 0 c) [] := by
  refine ⟨fun w => rfl, fun w _ k hk => ?_⟩
  simp [Builtin.firstCells]

theorem Src.str {l : List UInt8} : Src P g H 1 l.length (vS l) (bV l) := by
  refine ⟨fun w => rfl, fun w _ k _ => ?_⟩
  show Result.ok _ w = _
  congr 1
  apply Array.ext'
  have e : (ByteArray.mk l.toArray).extract 0 k = ByteArray.mk (l.take k).toArray := by rw [extract_mk]; simp
  rw [e]
  simp [bV, List.map_take]
  rfl

theorem nextslicecap_ok {need old bytes : Nat} (h : old < need) (hb : need * bytes ≤ 140737488355328) : ¬ (Builtin.nextslicecap need old * bytes > 2 ^ 48) := by
  have := growslice_fits h hb
  omega

def notInt (D : TypeDesc) : Prop := (∃ e, D = .slice e) ∨ D = .string

theorem run_app_room {w : World} {t t2 ty te : TypeId} {D : TypeDesc} {sz m b off n cap : Nat} {u : Value} {cs news : List Value} (hu : P.underlying t = some (.slice te)) (hu2 : P.underlying t2 = some D) (hD : notInt D) (hs : SizeIs P te sz)
    (hb : w.heap[b]? = some (oC cs te)) (hlen : (Builtin.lenOf u).run P w = .ok m w) (hnew : (Builtin.firstCells sz m u).run P w = .ok ⟨news⟩ w) (hm : news.length = m * sz) (h1 : ∀ y ∈ news, y.oneCell' = true) (hr : n + m ≤ cap) (hc : off + cap * sz ≤ cs.length) :
    (Builtin.append_ #[t, t2] ty #[sl b off n cap, u]).run P w = .ok (sl b off (n + m) cap) (w.setRow b ⟨lay cs (off + n * sz) news⟩) := by
  have hle : (n + m) * sz ≤ cap * sz := Nat.mul_le_mul_right _ hr
  have hst := run_store_cells (P := P) hb (vs := news) (off := off + n * sz) (by rw [hm, Nat.add_assoc, ← Nat.add_mul]; omega) h1
  have hadd : (⟨b, off, none⟩ : Addr).add (n * sz) = ⟨b, off + n * sz, none⟩ := Addr.add_lit _ _ _
  rcases hD with ⟨e2, rfl⟩ | rfl <;> simp [Builtin.append_, run_underlying hu, run_underlying hu2, run_sizeOf' hs, hlen, hr, hnew, hadd, hst]

theorem run_app_grow {w : World} {t t2 ty te : TypeId} {D : TypeDesc} {sz bs m n cap : Nat} {base : Option Addr} {u z : Value} {olds news : List Value} (hu : P.underlying t = some (.slice te)) (hu2 : P.underlying t2 = some D) (hD : notInt D) (hs : SizeIs P te sz)
    (hby : BytesIs P te bs) (hz : ZeroIs P te z) (hlen : (Builtin.lenOf u).run P w = .ok m w) (hnew : (Builtin.firstCells sz m u).run P w.drew = .ok ⟨news⟩ w.drew) (hold : (Builtin.firstCells sz n (.slice base n cap)).run P w.drew = .ok ⟨olds⟩ w.drew)
    (hr : cap < n + m) (hl : (n + m) * bs ≤ 140737488355328) (hbs : 0 < bs) :
    (Builtin.append_ #[t, t2] ty #[.slice base n cap, u]).run P w = .ok (sl w.heap.size 0 (n + m) (grownCap w (n + m) cap te)) (w.drew.alloc (.cells (⟨olds⟩ ++ ⟨news⟩ ++ Builtin.zeroCells z.cells (grownCap w (n + m) cap te - (n + m))) te)) := by
  obtain ⟨inf, hinf, rfl⟩ := run_bytes hby
  have hsz := hs
  have hn : ¬ (n + m ≤ cap) := by omega
  have h48 : ¬ (281474976710656 < Builtin.nextslicecap (n + m) cap * inf.bytes) := by have := growslice_fits hr hl; omega
  have hb0 : inf.bytes ≠ 0 := by omega
  have hle : n + m ≤ (n + m) * inf.bytes := Nat.le_mul_of_pos_right _ hbs
  have h63 : ¬ (9223372036854775807 < ((n : Int) + (m : Int))) := by omega
  rcases hD with ⟨e2, rfl⟩ | rfl <;> (simp [Builtin.append_, run_underlying hu, run_underlying hu2, run_sizeOf' hs, typeInfo, hinf, run_zero hz, hlen, hn, h48, hb0, hnew, hold, Question.forced, newRow, grownCap]; congr 2; apply Array.ext'; simp)

theorem zeroCells_len (z : Array Value) (n : Nat) : (Builtin.zeroCells z n).toList.length = n * z.size := by simp [Builtin.zeroCells]

theorem Eff.app {t t2 te : TypeId} {D : TypeDesc} {s x : Operand} {v u z : Value} {sz bs m : Nat} {xs news : List Value} {H1 R : HL} (hu : P.underlying t = some (.slice te)) (hu2 : P.underlying t2 = some D) (hD : notInt D)
    (hs : SizeIs P te sz) (hb : BytesIs P te bs) (hz : ZeroIs P te z) (hzc : z.cells.size = sz) (hsv : ev F s = some v) (hxv : ev F x = some u) (hv : SlOf te sz xs v H1) (hH : ∀ w, Own g w H → Own g w (H1 ++ R)) (hsrc : Src P g H sz m u news)
    (hm : news.length = m * sz) (h1 : ∀ y ∈ news, y.oneCell' = true) (hsz : 0 < sz) (hbs : 0 < bs) (hl : (xs.length + news.length) * bs ≤ 140737488355328) :
    Eff P F g H ⟨d, .call { callee := .builtin .append, args := #[s, x], argTypes := #[t, t2] }, ty, pos, aft, gd⟩ { p : Value × HL // SlOf te sz (xs ++ news) p.1 p.2 } (fun p => p.1.1) (fun p => p.1.2 ++ R) := fun a w hf ho => by
  have hlen := hsrc.1 w
  have hfst : ∀ w, Own g w H → (Builtin.firstCells sz m u).run P w = .ok ⟨news⟩ w := fun w ho => by
    have := hsrc.2 w ho m (by omega)
    rw [← hm, List.take_length] at this
    exact this
  have fin : ∀ (p : Value × HL) (w' : World), SlOf te sz (xs ++ news) p.1 p.2 → Own g w' (p.2 ++ R) → (Builtin.append_ #[t, t2] ty #[v, u]).run P w = .ok p.1 w' →
      ∃ (q : { p : Value × HL // SlOf te sz (xs ++ news) p.1 p.2 }) (w' : World), (execOp a.eval ⟨d, .call { callee := .builtin .append, args := #[s, x], argTypes := #[t, t2] }, ty, pos, aft, gd⟩).run P w = .ok (.value q.1.1) w' ∧ Own g w' (q.1.2 ++ R) := fun p w' hp ho' hr =>
    ⟨⟨p, hp⟩, w', by simp [execOp, resolve, invoke, builtin, hf.eval hsv, hf.eval hxv, hr], ho'⟩
  have ho2 := hH w ho
  have grown : ∀ (base : Option Addr) (n cap : Nat) (R' : HL), Own g w R' → (∀ p ∈ R, p ∈ R') → v = .slice base n cap → xs.length = n * sz → (Builtin.firstCells sz n (.slice base n cap)).run P w.drew = .ok ⟨xs⟩ w.drew → cap < n + m →
      ∃ (q : { p : Value × HL // SlOf te sz (xs ++ news) p.1 p.2 }) (w' : World), (execOp a.eval ⟨d, .call { callee := .builtin .append, args := #[s, x], argTypes := #[t, t2] }, ty, pos, aft, gd⟩).run P w = .ok (.value q.1.1) w' ∧ Own g w' (q.1.2 ++ R) := by
    intro base n cap R' hoR hRR hve hxl hold hgr
    subst hve
    have hnm : n + m ≤ xs.length + news.length := by
      rw [hxl, hm]; have := Nat.le_mul_of_pos_right n hsz; have := Nat.le_mul_of_pos_right m hsz; omega
    have hlb : (n + m) * bs ≤ 140737488355328 := Nat.le_trans (Nat.mul_le_mul_right _ hnm) hl
    have hr := run_app_grow (P := P) (ty := ty) hu hu2 hD hs hb hz hlen (hfst _ ho.drew) hold hgr hlb hbs
    have hge := grownCap_ge w (n + m) cap te
    refine fin (_, [(w.heap.size, .cells (⟨xs⟩ ++ ⟨news⟩ ++ Builtin.zeroCells z.cells (grownCap w (n + m) cap te - (n + m))) te)]) _ (.inr ⟨w.heap.size, 0, n + m, grownCap w (n + m) cap te, (⟨xs⟩ ++ ⟨news⟩ ++ Builtin.zeroCells z.cells (grownCap w (n + m) cap te - (n + m)) : Array Value).toList, rfl, rfl, hge, ?_, ?_⟩) ?_ hr
    · simp only [Array.toList_append, List.length_append, zeroCells_len, hzc, Nat.zero_add, hxl, hm]
      rw [← Nat.add_mul, ← Nat.add_mul]
      exact Nat.mul_le_mul_right _ (by omega)
    · simp only [Array.toList_append, List.drop_zero]
      rw [List.take_append_of_le_length (by simp only [List.length_append, hxl, hm, Nat.add_mul]; exact Nat.le_refl _)]
      exact List.take_of_length_le (by simp only [List.length_append, hxl, hm, Nat.add_mul]; exact Nat.le_refl _)
    · have := (hoR.drew.alloc (.cells (⟨xs⟩ ++ ⟨news⟩ ++ Builtin.zeroCells z.cells (grownCap w (n + m) cap te - (n + m))) te))
      refine ⟨?_, fun p hp => ?_, this.os, this.out⟩
      · simp only [List.cons_append, List.nil_append, List.map_cons, List.nodup_cons]
        refine ⟨fun hmem => ?_, ?_⟩
        · obtain ⟨p, hp, he⟩ := List.mem_map.1 hmem
          have := hoR.lt (hRR p hp)
          omega
        · have := ho2.nodup
          rw [List.map_append, List.nodup_append] at this
          exact this.2.1
      · simp only [List.cons_append, List.nil_append] at hp
        rcases List.mem_cons.1 hp with rfl | hp
        · exact this.mem _ List.mem_cons_self
        · exact this.mem _ (List.mem_cons_of_mem _ (hRR p hp))
  rcases hv with ⟨hv, rfl, rfl⟩ | ⟨b, off, n, cap, cs, hv, rfl, hn, hcap, htake⟩
  · by_cases hm0 : m = 0
    · subst hm0
      have hnil : news = [] := List.eq_nil_of_length_eq_zero (by simpa using hm)
      subst hnil
      subst hv
      refine fin (.slice none 0 0, []) w SlOf.nil ho2 ?_
      rcases hD with ⟨e2, rfl⟩ | rfl <;> simp [Builtin.append_, run_underlying hu, run_underlying hu2, run_sizeOf' hs, hlen, hfst w ho]
    · exact grown none 0 0 _ ho2 (fun p hp => List.mem_append_right _ hp) hv (by simp) (by simp [Builtin.firstCells]) (by omega)
  · subst hv
    have hble : off + n * sz ≤ cs.length := by have := Nat.mul_le_mul_right sz hn; omega
    have hxl : xs.length = n * sz := by rw [← htake, List.length_take, List.length_drop]; omega
    by_cases hroom : n + m ≤ cap
    · have hbk : w.heap[b]? = some (oC cs te) := ho2.mem (b, oC cs te) (List.mem_append_left _ List.mem_cons_self)
      have hr := run_app_room (P := P) (ty := ty) hu hu2 hD hs hbk hlen (hfst w ho) hm h1 hroom hcap
      refine fin (_, [(b, oC (lay cs (off + n * sz) news) te)]) _ (.inr ⟨b, off, n + m, cap, _, rfl, rfl, hroom, ?_, ?_⟩) ?_ hr
      · have : (lay cs (off + n * sz) news).length = cs.length := by
          simp only [lay, List.length_append, List.length_take, List.length_drop, hm]
          have := Nat.mul_le_mul_right sz hroom
          rw [Nat.add_mul] at this
          omega
        rw [this]; exact hcap
      · have hle := Nat.mul_le_mul_right sz hroom
        rw [Nat.add_mul] at hle
        unfold lay
        rw [List.append_assoc, List.drop_append_of_le_length (by simp; omega), List.drop_take]
        have e1 : off + n * sz - off = n * sz := by omega
        rw [e1, htake, ← List.append_assoc, List.take_append_of_le_length (by simp [hxl, hm, Nat.add_mul])]
        exact List.take_of_length_le (by simp [hxl, hm, Nat.add_mul])
      · exact Own.setRow ho2 (K := fun o => (b, o) :: R) Foc.head
    · have hbk : w.heap[b]? = some (oC cs te) := ho2.mem (b, oC cs te) (List.mem_append_left _ List.mem_cons_self)
      refine grown (some ⟨b, off, none⟩) n cap _ ho2 (fun p hp => List.mem_append_right _ hp) rfl hxl ?_ (by omega)
      have hlx : (xs.length : Nat) = n * sz := hxl
      have := cells_at (P := P) (w := w.drew) (vs := xs) (off := off) hbk (by rw [hlx]; exact htake)
      rw [hlx] at this
      exact this
end Go.Proofs.YtlhncphipfkkjaaGreatDoor

/- Laws on single operations: copy, strings as bytes, interfaces, calls of methods and closures, comparisons, structs. No function of the program is looked at here. -/
namespace Go.Proofs.YtlhncphipfkkjaaGreatDoor
open Go

variable {P : Program} {F : FL} {g : World} {H : HL} {d : Option Nat} {ty : TypeId} {pos : String} {aft : Array Edge} {gd : Option (Nat × Bool)}

/-! ## Copy -/
theorem Eff.copy {t t2 te : TypeId} {x y : Operand} {b off dl cap m n : Nat} {cs news : List Value} {u : Value} {K : Obj → HL} (hu : P.underlying t = some (.slice te)) (hs : SizeIs P te 1)
    (hx : ev F x = some (sl b off dl cap)) (hy : ev F y = some u) (hF : Foc H b (oC cs te) K) (hsrc : Src P g H 1 m u news) (hm : news.length = m) (h1 : ∀ y ∈ news, y.oneCell' = true) (hn : Nat.min m dl = n) (hl : off + n ≤ cs.length) :
    Eff P F g H ⟨d, .call { callee := .builtin .copy, args := #[x, y], argTypes := #[t, t2] }, ty, pos, aft, gd⟩ Unit (fun _ => .int .i64 (n : Int)) (fun _ => K (oC (lay cs off (news.take n)) te)) := fun a w hf ho => by
  have hb := ho.at hF
  have hnm : n ≤ m := by rw [← hn]; exact Nat.min_le_left _ _
  have hfc := hsrc.2 w ho n (by omega)
  rw [Nat.mul_one] at hfc
  have hlen : (news.take n).length = n := List.length_take_of_le (by omega)
  have hst := run_store_cells (P := P) hb (vs := news.take n) (off := off) (by rw [hlen]; exact hl) (fun v hv => h1 v (List.mem_of_mem_take hv))
  refine ⟨(), _, ?_, ho.setRow hF⟩
  simp [execOp, resolve, invoke, builtin, hf.eval hx, hf.eval hy, Builtin.copy_, run_underlying hu, hsrc.1 w, hn, run_sizeOf' hs, hfc, hst, goInt]

/-! ## A string's bytes -/
theorem bytes_map (l : List UInt8) : Array.map (fun b : UInt8 => Value.int .u8 (b.toNat : Int)) l.toArray = ⟨bV l⟩ := by
  apply Array.ext'; simp only [List.map_toArray]; rfl

theorem Eff.bytes {src dst e : TypeId} {x : Operand} {l : List UInt8} (hs : P.underlying src = some .string) (hd : P.underlying dst = some (.slice e)) (he : P.underlying e = some (.int .u8)) (hx : ev F x = some (vS l)) :
    Eff P F g H ⟨d, .convert src dst x, ty, pos, aft, gd⟩ (Nat × Nat) (fun p => sl p.1 0 l.length (l.length + p.2))
      (fun p => (p.1, .cells ⟨bV l ++ List.replicate p.2 (.int .u8 0)⟩ e (l.length + p.2, l.length + p.2 + 1)) :: H) := fun a w hf ho => by
  have hq : (Question.appendCap l.length 0 e).forced = false := rfl
  generalize hcap : (Question.appendCap l.length 0 e).cut (w.tape w.drawn (Question.appendCap l.length 0 e)) = cap
  have hge : l.length ≤ cap := by rw [← hcap]; simp [Question.cut]
  obtain ⟨k, rfl⟩ : ∃ k, cap = l.length + k := ⟨cap - l.length, by omega⟩
  let o0 : Obj := .cells ⟨bV l ++ List.replicate k (.int .u8 0)⟩ e
  refine ⟨(w.heap.size, k), (w.drew.alloc o0).freeze ⟨w.heap.size, l.length + k, none⟩ 1, ?_, ?_⟩
  · have hsz : (bV l ++ List.replicate k (Value.int .u8 0)).length = l.length + k := by simp [bV]
    have hsh : (w.drew.alloc o0).shape? w.heap.size = some (e, l.length + k) := by
      simp only [World.shape?, World.alloc]
      have : (w.drew.heap.push o0)[w.heap.size]? = some o0 := by
        show (w.heap.push o0)[w.heap.size]? = some o0
        simp
      rw [this]; simp only [o0, Option.some.injEq, Prod.mk.injEq, true_and]; exact hsz
    have harr : (⟨bV l⟩ ++ Array.replicate k (Value.int .u8 0) : Array Value) = ⟨bV l ++ List.replicate k (.int .u8 0)⟩ := by apply Array.ext'; simp
    simp only [execOp, hf.eval hx, convert, Sem.run_bind, run_underlying hs, run_underlying hd, run_underlying he, Result.andThen_ok, Conv.stringToBytes, size_mkL, run_choose_drew, hq, Bool.false_eq_true, if_false, hcap, bytes_map, newRow, run_newObj_alloc, Sem.run_pure,
      markStringish, run_shape, Nat.add_sub_cancel_left, harr]
    rw [show w.drew.heap.size = w.heap.size from rfl, show Obj.cells ⟨bV l ++ List.replicate k (.int .u8 0)⟩ e = o0 from rfl, hsh]
    simp only [run_freeze, Result.andThen_ok]
  · have ha := ho.drew.alloc o0
    have hhead : (w.drew.alloc o0).heap[w.heap.size]? = some o0 := ha.mem _ List.mem_cons_self
    have hlt : w.heap.size < (w.drew.alloc o0).heap.size := (Array.getElem?_eq_some_iff.1 hhead).1
    refine ha.upd Foc.head ?_ (fun c hc => ?_) rfl rfl
    · have hv : (w.drew.alloc o0).heap[w.heap.size] = o0 := (Array.getElem?_eq_some_iff.1 hhead).2
      show (Array.modify _ _ _)[w.drew.heap.size]? = _
      rw [Array.getElem?_modify]
      have h0 : w.drew.heap.size = w.heap.size := rfl
      simp only [h0, if_true, hhead, Option.map_some, o0]
      simp
    · show (Array.modify _ _ _)[c]? = _
      rw [Array.getElem?_modify]
      exact if_neg (fun e => hc e.symm)

/-! ## Interfaces -/
def plainD : TypeDesc → Bool
  | .interface _ => false
  | _ => true
theorem Yl.iface {t : TypeId} {x : Operand} {v : Value} {D : TypeDesc} (hu : P.underlying t = some D) (hD : plainD D = true) (hx : ev F x = some v) : Yl P F H ⟨d, .makeInterface t x, ty, pos, aft, gd⟩ (.iface t v) := fun a g w hf _ => by
  cases D <;> first
    | (simp [execOp, hf.eval hx, Instr.makeInterface, run_underlying hu]; done)
    | (simp [plainD] at hD; done)

theorem Yl.func {fn : Fn} {xs ys : List Operand} {vs us : List Value} (hx : evs F xs vs) (hy : evs F ys us) : Yl P F H ⟨d, .makeFunc fn xs.toArray ys.toArray, ty, pos, aft, gd⟩ (.func fn ⟨vs⟩ ⟨us⟩) := fun a g w hf _ => by
  have h1 := evs_map hf hx
  have h2 := evs_map hf hy
  simp only [execOp, Sem.run_bind, Instr.makeFunc, List.map_toArray, h1, h2, Sem.run_pure, Result.andThen_ok]

/-- a type assertion that holds, to an interface; that doesn't -/
theorem Yl.asI {x : Operand} {xt t t' : TypeId} {v : Value} {want : Array (String × TypeId)} (hu : P.underlying t = some (.interface want)) (hx : ev F x = some (.iface t' v)) (hm : ((P.info? t').map fun i => Instr.missingMethod want i.methods) = some none) :
    Yl P F H ⟨d, .typeAssert x xt t true, ty, pos, aft, gd⟩ (.tuple #[.iface t' v, .bool true]) := fun a g w hf _ => by
  obtain ⟨i, hi, hmi⟩ := Option.map_eq_some_iff.1 hm
  simp [execOp, hf.eval hx, Instr.typeAssert, run_underlying hu, typeInfo, hi, hmi]
theorem Yl.noI {x : Operand} {xt t t' : TypeId} {v z : Value} {want : Array (String × TypeId)} (hu : P.underlying t = some (.interface want)) (hx : ev F x = some (.iface t' v)) (hm : ((P.info? t').map fun i => (Instr.missingMethod want i.methods).isSome) = some true) (hz : ZeroIs P t z) :
    Yl P F H ⟨d, .typeAssert x xt t true, ty, pos, aft, gd⟩ (.tuple #[z, .bool false]) := fun a g w hf _ => by
  obtain ⟨i, hi, hmi⟩ := Option.map_eq_some_iff.1 hm
  obtain ⟨m, hmm⟩ := Option.isSome_iff_exists.1 hmi
  simp [execOp, hf.eval hx, Instr.typeAssert, run_underlying hu, typeInfo, hi, hmm, run_zero hz]
theorem Yl.asT {x : Operand} {xt t : TypeId} {v : Value} {D : TypeDesc} (hu : P.underlying t = some D) (hD : plainD D = true) (hx : ev F x = some (.iface t v)) :
    Yl P F H ⟨d, .typeAssert x xt t true, ty, pos, aft, gd⟩ (.tuple #[v, .bool true]) := fun a g w hf _ => by
  cases D <;> first
    | (simp [execOp, hf.eval hx, Instr.typeAssert, run_underlying hu]; done)
    | (simp [plainD] at hD; done)
theorem Yl.noT {x : Operand} {xt t t' : TypeId} {v z : Value} {D : TypeDesc} (hu : P.underlying t = some D) (hD : plainD D = true) (hx : ev F x = some (.iface t' v)) (hne : Nat.beq t' t = false) (hz : ZeroIs P t z) :
    Yl P F H ⟨d, .typeAssert x xt t true, ty, pos, aft, gd⟩ (.tuple #[z, .bool false]) := fun a g w hf _ => by
  have h0 : t' ≠ t := fun e => by subst e; simp at hne
  cases D <;> first
    | (simp [execOp, hf.eval hx, Instr.typeAssert, run_underlying hu, h0, run_zero hz]; done)
    | (simp [plainD] at hD; done)

/-! ## Calls of methods and closures -/
/-- at this dynamic type the method is this function, and it takes this receiver -/
def MethodIs (P : Program) (t : TypeId) (v : Value) (name : String) (f : FuncId) (rv : Value) : Prop := ∀ w, (Go.method (P.types.size + Made.depth) t v name).run P w = .ok (f, rv) w

theorem Cll.inv {f : FuncId} {fn : Func} {c : Code} {r : Operand} {t : TypeId} {v rv : Value} {name : String} {xs : List Operand} {vs : List Value} {ts : Array TypeId} (hf : P.funcs[f]? = some fn) (hb : fn.body = some c) (hn : (fn.name == "runtime.NumGoroutine") = false)
    (hm : MethodIs P t v name f rv) (hr : ev F r = some (.iface t v)) (hx : evs F xs vs) :
    Cll P F H ⟨d, .call { callee := .invoke r name, args := xs.toArray, argTypes := ts }, ty, pos, aft, gd⟩ f (rv :: vs).toArray := fun a g w hF _ => by
  have := evs_map hF hx
  have e : xs.toArray.map a.eval = vs.toArray := by rw [List.map_toArray, this]
  simp [execOp, resolve, invoke, e, hF.eval hr, callMethod, hm w, callFunc_enter hf hb hn]

theorem Cll.clo {f : FuncId} {fn : Func} {c : Code} {r : Operand} {caps : List Value} {xs : List Operand} {vs : List Value} {ts : Array TypeId} (hf : P.funcs[f]? = some fn) (hb : fn.body = some c) (hn : (fn.name == "runtime.NumGoroutine") = false)
    (hr : ev F r = some (.func (.func f) #[] ⟨caps⟩)) (hx : evs F xs vs) :
    Cll P F H ⟨d, .call { callee := .value r, args := xs.toArray, argTypes := ts }, ty, pos, aft, gd⟩ f (vs ++ caps).toArray := fun a g w hF _ => by
  have := evs_map hF hx
  have e : xs.toArray.map a.eval = vs.toArray := by rw [List.map_toArray, this]
  have e2 : (#[] ++ vs.toArray ++ (⟨caps⟩ : Array Value)) = (vs ++ caps).toArray := by apply Array.ext'; simp
  simp [execOp, resolve, Deferred.ofValue, invoke, e, hF.eval hr, callFunc_enter hf hb hn]

/-- the check of a method value whose interface isn't nil -/
theorem Yl.nilCheckM {x : Operand} {t : TypeId} {v : Value} {name : String} {caps : Array Value} (hx : ev F x = some (.func (.method name) #[.iface t v] caps)) (hn : ∀ w, (Go.nilAhead (P.types.size + Made.depth) t v name).run P w = .ok (some false) w) :
    Yl P F H ⟨d, .nilCheck x, ty, pos, aft, gd⟩ (.func (.method name) #[.iface t v] caps) := fun a g w hf _ => by
  simp [execOp, hf.eval hx, hn w]

/-! ## Comparisons with nil, of errors -/
section
variable {t t' : TypeId} {x : Operand} {ms : Array (String × TypeId)}
theorem Yl.neqNilN {c : Value} (hu : P.underlying t = some (.interface ms)) (hx : ev F x = some .nilIface) (hc : c = .nilIface) : Yl P F H ⟨d, .binOp .neq t x (.const c) t', ty, pos, aft, gd⟩ (.bool false) := fun a g w hf _ => by
  subst hc
  have hev : a.eval (.const .nilIface) = .nilIface := rfl
  have he : (Op.equalIn (9999 + 1) t .nilIface .nilIface).run P w = .ok true w := by unfold Op.equalIn; simp [run_underlying hu]
  have he' : (Op.equal t .nilIface .nilIface).run P w = .ok true w := he
  simp [execOp, hf.eval hx, hev, eqGuard, binOp, he']
theorem Yl.neqNilI {c : Value} {u : TypeId} {v : Value} (hu : P.underlying t = some (.interface ms)) (hx : ev F x = some (.iface u v)) (hc : c = .nilIface) : Yl P F H ⟨d, .binOp .neq t x (.const c) t', ty, pos, aft, gd⟩ (.bool true) := fun a g w hf _ => by
  subst hc
  have hev : a.eval (.const .nilIface) = .nilIface := rfl
  have he : (Op.equalIn (9999 + 1) t (.iface u v) .nilIface).run P w = .ok false w := by unfold Op.equalIn; simp [run_underlying hu]
  have he' : (Op.equal t (.iface u v) .nilIface).run P w = .ok false w := he
  simp [execOp, hf.eval hx, hev, eqGuard, binOp, he']
theorem Yl.eqlNilN {c : Value} (hu : P.underlying t = some (.interface ms)) (hx : ev F x = some .nilIface) (hc : c = .nilIface) : Yl P F H ⟨d, .binOp .eql t x (.const c) t', ty, pos, aft, gd⟩ (.bool true) := fun a g w hf _ => by
  subst hc
  have hev : a.eval (.const .nilIface) = .nilIface := rfl
  have he : (Op.equalIn (9999 + 1) t .nilIface .nilIface).run P w = .ok true w := by unfold Op.equalIn; simp [run_underlying hu]
  have he' : (Op.equal t .nilIface .nilIface).run P w = .ok true w := he
  simp [execOp, hf.eval hx, hev, eqGuard, binOp, he']
theorem Yl.eqlNilI {c : Value} {u : TypeId} {v : Value} (hu : P.underlying t = some (.interface ms)) (hx : ev F x = some (.iface u v)) (hc : c = .nilIface) : Yl P F H ⟨d, .binOp .eql t x (.const c) t', ty, pos, aft, gd⟩ (.bool false) := fun a g w hf _ => by
  subst hc
  have hev : a.eval (.const .nilIface) = .nilIface := rfl
  have he : (Op.equalIn (9999 + 1) t (.iface u v) .nilIface).run P w = .ok false w := by unfold Op.equalIn; simp [run_underlying hu]
  have he' : (Op.equal t (.iface u v) .nilIface).run P w = .ok false w := he
  simp [execOp, hf.eval hx, hev, eqGuard, binOp, he']
/-- nil against an error that is there -/
theorem Yl.eqlN {y : Operand} {u : TypeId} {v : Value} (hu : P.underlying t = some (.interface ms)) (hx : ev F x = some .nilIface) (hy : ev F y = some (.iface u v)) : Yl P F H ⟨d, .binOp .eql t x y t', ty, pos, aft, gd⟩ (.bool false) := fun a g w hf _ => by
  have he : (Op.equalIn (9999 + 1) t .nilIface (.iface u v)).run P w = .ok false w := by unfold Op.equalIn; simp [run_underlying hu]
  have he' : (Op.equal t .nilIface (.iface u v)).run P w = .ok false w := he
  simp [execOp, hf.eval hx, hf.eval hy, eqGuard, binOp, he']
/-- an error against itself: a pointer -/
theorem Yl.eqlP {y : Operand} {u e : TypeId} {a : Addr} {z : Nat} (hu : P.underlying t = some (.interface ms)) (hp : P.underlying u = some (.pointer e)) (hz : SizeIs P e (z + 1)) (hc : ((P.info? u).map (·.comparable)) = some true)
    (hx : ev F x = some (.iface u (.pointer (some a)))) (hy : ev F y = some (.iface u (.pointer (some a)))) : Yl P F H ⟨d, .binOp .eql t x y t', ty, pos, aft, gd⟩ (.bool true) := fun _ g w hf _ => by
  obtain ⟨i, hi, hci⟩ := Option.map_eq_some_iff.1 hc
  have h1 : (Op.equalIn (9998 + 1) u (.pointer (some a)) (.pointer (some a))).run P w = .ok true w := by
    unfold Op.equalIn; simp [run_underlying hp, run_sizeOf' hz, sameAddr]
  have he : (Op.equalIn (9999 + 1) t (.iface u (.pointer (some a))) (.iface u (.pointer (some a)))).run P w = .ok true w := by
    unfold Op.equalIn; simp [run_underlying hu, typeInfo, hi, hci, h1]
  have he' : (Op.equal t (.iface u (.pointer (some a))) (.iface u (.pointer (some a)))).run P w = .ok true w := he
  simp [execOp, hf.eval hx, hf.eval hy, eqGuard, binOp, he']
end
end Go.Proofs.YtlhncphipfkkjaaGreatDoor

/- Laws on single operations: structs and arrays that are built, compared; maps keyed by strings. No function of the program is looked at here. -/
namespace Go.Proofs.YtlhncphipfkkjaaGreatDoor
open Go

variable {P : Program} {F : FL} {g : World} {H : HL} {d : Option Nat} {ty : TypeId} {pos : String} {aft : Array Edge} {gd : Option (Nat × Bool)}

/-! ## Structs that are built -/
def fillS (pl : List (Nat × Nat)) : List Value → List (Nat × Value) → Option (List Value)
  | cs, [] => some cs
  | cs, (i, v) :: r =>
    match pl[i]? with
    | none => none
    | some (off, size) =>
      match Nat.beq v.cells.size size && Nat.ble (off + v.cells.size) cs.length with
      | true => fillS pl (lay cs off v.cells.toList) r
      | false => none

theorem fill_S (pl : Array (Nat × Nat)) : ∀ (r : List (Nat × Value)) (cs rs : List Value), fillS pl.toList cs r = some rs → Instr.fill (fun i => pl[i]?) ⟨cs⟩ r = some ⟨rs⟩
  | [], cs, rs, h => by simp only [fillS, Option.some.injEq] at h; subst h; rfl
  | (i, v) :: r, cs, rs, h => by
    simp only [fillS, Array.getElem?_toList] at h
    simp only [Instr.fill]
    cases hp : pl[i]? with
    | none => rw [hp] at h; cases h
    | some q =>
      obtain ⟨off, size⟩ := q
      rw [hp] at h
      simp only at h ⊢
      cases hb : (Nat.beq v.cells.size size && Nat.ble (off + v.cells.size) cs.length) with
      | false => rw [hb] at h; cases h
      | true =>
        rw [hb] at h
        simp only [Bool.and_eq_true] at hb
        have h1 := Nat.eq_of_beq_eq_true hb.1
        have h2 := Nat.le_of_ble_eq_true hb.2
        have h3 : (v.cells.size ≠ size || decide (off + v.cells.size > (Array.mk cs).size)) = false := by simp [h1]; rw [← h1]; omega
        simp only [h3, Bool.false_eq_true, if_false]
        rw [set_fold_arr v.cells off ⟨cs⟩ (by simpa using h2)]
        exact fill_S pl r _ _ h

/-- a struct type: its zero's cells, its fields' places -/
def StructIs (P : Program) (t : TypeId) (zs : List Value) (pl : List (Nat × Nat)) : Prop :=
  ∃ fs z, P.underlying t = some (.struct fs) ∧ ZeroIs P t z ∧ z.cells = ⟨zs⟩ ∧ (fs.toList.map fun f => (f.offset, (P.info? f.type).map (·.size))) = pl.map fun p => (p.1, some p.2)

theorem run_places {fs : Array Field} {pl : List (Nat × Nat)} (h : (fs.toList.map fun f => (f.offset, (P.info? f.type).map (·.size))) = pl.map fun p => (p.1, some p.2)) (w : World) :
    (fs.mapM fun f => do pure (f.offset, ← sizeOf f.type) : Sem (Array (Nat × Nat))).run P w = .ok pl.toArray w := by
  have key : ∀ (l : List Field) (pl : List (Nat × Nat)), (l.map fun f => (f.offset, (P.info? f.type).map (·.size))) = (pl.map fun p => (p.1, some p.2)) →
      (l.mapM fun f => do pure (f.offset, ← sizeOf f.type) : Sem (List (Nat × Nat))).run P w = .ok pl w := by
    intro l
    induction l with
    | nil => intro pl h; cases pl with
      | nil => rfl
      | cons => cases h
    | cons f l ih =>
      intro pl h
      cases pl with
      | nil => cases h
      | cons p pl =>
        simp only [List.map_cons, List.cons.injEq, Prod.mk.injEq] at h
        obtain ⟨⟨h1, h2⟩, h3⟩ := h
        have hs := run_sizeOf' (P := P) (t := f.type) (n := p.2) h2 w
        simp only [List.mapM_cons, Sem.run_bind, hs, Sem.run_pure, Result.andThen_ok, ih pl h3, h1]
  rw [Array.mapM_eq_mapM_toList, Sem.run_map, key _ _ h]
  rfl

theorem Yl.build {t : TypeId} {zs vs rs : List Value} {pl : List (Nat × Nat)} {ixs : List Nat} {parts : Array (Nat × Operand)} (xs : List Operand) (hs : StructIs P t zs pl) (hp : parts = (ixs.zip xs).toArray) (hx : evs F xs vs) (hr : fillS pl zs (ixs.zip vs) = some rs) :
    Yl P F H ⟨d, .build t parts, ty, pos, aft, gd⟩ (.agg ⟨rs⟩) := fun a g w hf _ => by
  subst hp
  obtain ⟨fs, z, hu, hz, hc, hpl⟩ := hs
  have hmap := evs_map hf hx
  have hparts : (Array.map (fun x => match x with | (i, x) => (i, a.eval x)) (ixs.zip xs).toArray).toList = ixs.zip vs := by
    rw [← hmap, List.map_toArray]
    have hz2 : ∀ (l : List Nat) (m : List Operand), List.map (fun x => match x with | (i, x) => (i, a.eval x)) (l.zip m) = l.zip (m.map a.eval) := by
      intro l
      induction l with
      | nil => intro m; rfl
      | cons i l ih => intro m; cases m with
        | nil => rfl
        | cons x m => simp only [List.zip_cons_cons, List.map_cons, ih m]
    exact hz2 ixs xs
  have hfill := fill_S pl.toArray (ixs.zip vs) zs rs hr
  have hpr := run_places hpl w
  simp only [execOp, Sem.run_bind, Instr.build, run_zero hz, run_underlying hu, Result.andThen_ok, hc, hparts, hpr, hfill, Sem.run_pure]

/-- an array that is written out whole -/
theorem Yl.buildA {t e : TypeId} {n : Nat} {z : Value} {zs vs : List Value} {parts : Array (Nat × Operand)} (xs : List Operand) (hu : P.underlying t = some (.array n e)) (hs : SizeIs P e 1) (hz : ZeroIs P t z) (hc : z.cells = ⟨zs⟩) (hzl : zs.length = vs.length)
    (hp : parts = (idxFrom 0 xs).toArray) (hx : evs F xs vs) (h1 : vs.all Value.oneCell' = true) :
    Yl P F H ⟨d, .build t parts, ty, pos, aft, gd⟩ (.agg ⟨vs⟩) := fun a g w hf _ => by
  subst hp
  have hmap := evs_map hf hx
  have hparts : (Array.map (fun x => match x with | (i, x) => (i, a.eval x)) (idxFrom 0 xs).toArray).toList = idxFrom 0 vs := by
    rw [← hmap, ← idxFrom_map, List.map_toArray]
  obtain ⟨h2, h3⟩ := cells_ones h1
  have hfill := fill_seq 1 vs 0 zs h2 (by omega)
  rw [h3] at hfill
  simp only [List.take_zero, List.nil_append, Nat.zero_add, Nat.mul_one] at hfill
  rw [List.drop_eq_nil_of_le (by omega), List.append_nil] at hfill
  simp only [execOp, Sem.run_bind, Instr.build, run_zero hz, run_underlying hu, run_sizeOf' hs, Result.andThen_ok, hc, hparts, Nat.mul_one, hfill, Sem.run_pure]
/-- none of it: the zero -/
theorem Yl.buildZ {t e : TypeId} {n sz : Nat} {z : Value} {zs : List Value} (hu : P.underlying t = some (.array n e)) (hs : SizeIs P e sz) (hz : ZeroIs P t z) (hc : z.cells = ⟨zs⟩) : Yl P F H ⟨d, .build t #[], ty, pos, aft, gd⟩ (.agg ⟨zs⟩) := fun a g w hf _ => by
  simp [execOp, Instr.build, run_zero hz, run_underlying hu, run_sizeOf' hs, hc, Instr.fill]

/-- an element of an array value -/
theorem Yl.idxA {t e : TypeId} {n : Nat} {x y : Operand} {cs : List Value} {k : IntKind} {m : Int} {j : Nat} {v : Value} {D : TypeDesc} (hu : P.underlying t = some (.array n e)) (hue : P.underlying e = some D) (hD : aggD D = false) (hs : SizeIs P e 1)
    (hx : ev F x = some (.agg ⟨cs⟩)) (hy : ev F y = some (.int k m)) (hm : m = (j : Int)) (hj : j < n) (hv : cs[j]? = some v) : Yl P F H ⟨d, .index t x y, ty, pos, aft, gd⟩ v := fun a g w hf _ => by
  subst hm
  have hv' : (⟨cs⟩ : Array Value)[j]? = some v := by simpa using hv
  simp [execOp, hf.eval hx, hf.eval hy, Instr.index, asIntOf, run_underlying hu, run_sizeOf' hs, hj, part, run_isAgg' hue, hD]
  rw [hv]
  simp

/-! ## Comparisons of structs and arrays -/
/-- two strings in a struct -/
theorem Yl.neq2S {t t' t1 : TypeId} {x y : Operand} {a b a' b' : List UInt8} {fs : Array Field} {f1 f2 : Field} {r : Bool} (hu : P.underlying t = some (.struct fs)) (hfs : fs.toList = [f1, f2]) (hn1 : (f1.name != "_") = true) (hn2 : (f2.name != "_") = true)
    (ht1 : f1.type = t1) (ht2 : f2.type = t1) (ho1 : f1.offset = 0) (ho2 : f2.offset = 1) (hus : P.underlying t1 = some .string) (hst : P.stoodInHeld t = false) (hg : P.eqGuardType P.depth t = false)
    (hx : ev F x = some (.agg ⟨[vS a, vS b]⟩)) (hy : ev F y = some (.agg ⟨[vS a', vS b']⟩)) (hr : decide (¬ (a = a' ∧ b = b')) = r) : Yl P F H ⟨d, .binOp .neq t x y t', ty, pos, aft, gd⟩ (.bool r) := fun ac g w hf _ => by
  have hfo : P.fieldsOf t = fs := by simp [Program.fieldsOf, hu]
  have hsd : P.underlying t = some (.struct (P.fieldsOf t)) := by rw [hfo]; exact hu
  have hag : (isAgg t1).run P w = .ok false w := run_isAgg' hus w
  have h1 : f1.name ≠ "_" := by simpa using hn1
  have h2 : f2.name ≠ "_" := by simpa using hn2
  have he : (Op.equalIn (9999 + 1) t (.agg ⟨[vS a, vS b]⟩) (.agg ⟨[vS a', vS b']⟩)).run P w = .ok (decide (a = a' ∧ b = b')) w := by
    rw [run_equalIn_struct w 9999 t _ _ hsd hst, hfo, hfs]
    have hp1 : ∀ (u v : List UInt8), (part t1 ⟨[vS u, vS v]⟩ 0).run P w = .ok (vS u) w := fun u v => by simp [part, hag]
    have hp2 : ∀ (u v : List UInt8), (part t1 ⟨[vS u, vS v]⟩ 1).run P w = .ok (vS v) w := fun u v => by simp [part, hag]
    have hq : ∀ (u v : List UInt8), (Op.equalIn (9998 + 1) t1 (vS u) (vS v)).run P w = .ok (u == v) w := fun u v => by
      rw [run_equalIn_string w 9998 t1 _ _ hus, ByteArray.toList_mk, ByteArray.toList_mk]
    simp only [Op.eqFields, if_pos h1, if_pos h2, ht1, ht2, ho1, ho2, Sem.run_bind, hp1, hp2, hq, Result.andThen_ok, Sem.run_ite, Sem.run_pure]
    by_cases hab : a = a' <;> by_cases hbb : b = b' <;> simp [hab, hbb]
  have hgd := run_eqGuard_agg (P := P) w .neq t x y ⟨[vS a, vS b]⟩ ⟨[vS a', vS b']⟩ hg
  have hneq := run_neq_struct (P := P) w t ⟨[vS a, vS b]⟩ ⟨[vS a', vS b']⟩
  rw [he] at hneq
  subst hr
  simp only [execOp, hf.eval hx, hf.eval hy, Sem.run_bind, hgd, hneq, Result.andThen_ok, Sem.run_pure]
  congr 2
  simp

/-- an array of bytes against another one -/
theorem run_eqItems_bytes {e : TypeId} {l m : List UInt8} (hue : P.underlying e = some (.int .u8)) (hlm : l.length = m.length) (dp : Nat) (w : World) : ∀ (r k : Nat), k + r = l.length →
    (Op.eqItems (dp + 1) e 1 ⟨bV l⟩ ⟨bV m⟩ (List.range' k r)).run P w = .ok (decide (l.drop k = m.drop k)) w
  | 0, k, h => by
    rw [List.drop_eq_nil_of_le (by omega), List.drop_eq_nil_of_le (by omega)]
    simp [Op.eqItems]
  | r + 1, k, h => by
    have hkl : k < l.length := by omega
    have hkm : k < m.length := by omega
    have hag : (isAgg e).run P w = .ok false w := run_isAgg' hue w
    have hp : ∀ (q : List UInt8) (hq : k < q.length), (part e ⟨bV q⟩ (k * 1)).run P w = .ok (.int .u8 (q[k].toNat : Int)) w := fun q hq => by
      have : (bV q)[k]? = some (.int .u8 (q[k].toNat : Int)) := by simp [bV, u8V, hq]
      simp [part, hag]
      rw [this]
      simp
    have hq : (Op.equalIn (dp + 1) e (.int .u8 (l[k].toNat : Int)) (.int .u8 (m[k].toNat : Int))).run P w = .ok (decide (l[k] = m[k])) w := by
      rw [run_equalIn_int w dp e .u8 .u8 _ _ hue, Bool.beq_eq_decide_eq]
      congr 1
      exact decide_eq_decide.2 ⟨fun h => UInt8.toNat_inj.1 (by omega), fun h => by rw [h]⟩
    simp only [List.range'_succ, Op.eqItems, Sem.run_bind, hp l hkl, hp m hkm, hq, Result.andThen_ok]
    rw [List.drop_eq_getElem_cons hkl, List.drop_eq_getElem_cons hkm]
    by_cases hc : l[k] = m[k]
    · simp only [hc, decide_true, Bool.not_true, Bool.false_eq_true, if_false, run_eqItems_bytes hue hlm dp w r (k + 1) (by omega), List.cons.injEq, true_and]
    · have hne : ¬ (l[k] :: l.drop (k + 1) = m[k] :: m.drop (k + 1)) := fun h => hc (List.cons.inj h).1
      rw [decide_eq_false hne, decide_eq_false hc]
      rfl

theorem Yl.eqlBytes {t t' e : TypeId} {n : Nat} {x y : Operand} {l m : List UInt8} {r : Bool} (hu : P.underlying t = some (.array n e)) (hs : SizeIs P e 1) (hue : P.underlying e = some (.int .u8)) (hg : P.eqGuardType P.depth t = false) (hl : l.length = n) (hm : m.length = n)
    (hx : ev F x = some (.agg ⟨bV l⟩)) (hy : ev F y = some (.agg ⟨bV m⟩)) (hr : decide (l = m) = r) : Yl P F H ⟨d, .binOp .eql t x y t', ty, pos, aft, gd⟩ (.bool r) := fun ac g w hf _ => by
  obtain ⟨i, hi, hsz⟩ := Option.map_eq_some_iff.1 hs
  have hce : P.cellsOf e = 1 := by simp [Program.cellsOf, hi, hsz]
  have he : (Op.equalIn (9999 + 1) t (.agg ⟨bV l⟩) (.agg ⟨bV m⟩)).run P w = .ok (decide (l = m)) w := by
    rw [run_equalIn_array w 9999 _ _ hu hi, hce, List.range_eq_range']
    have := run_eqItems_bytes (P := P) (l := l) (m := m) hue (by omega) 9998 w n 0 (by omega)
    simpa using this
  have hgd := run_eqGuard_agg (P := P) w .eql t x y ⟨bV l⟩ ⟨bV m⟩ hg
  have hneq := run_eql_struct (P := P) w t ⟨bV l⟩ ⟨bV m⟩
  rw [he] at hneq
  subst hr
  simp only [execOp, hf.eval hx, hf.eval hy, Sem.run_bind, hgd, hneq, Result.andThen_ok, Sem.run_pure]

/-! ## Maps keyed by strings, that only grow -/
/-- entries, in the order in which they came -/
def mapO (l : List (List UInt8 × Value)) : Obj := .map ⟨l.zipIdx.map fun p => { key := vS p.1.1, val := p.1.2, born := p.2 }⟩ l.length

theorem Eff.newMap {t : TypeId} : Eff P F g H ⟨d, .makeMap t none, ty, pos, aft, gd⟩ Nat (fun b => .map (some b)) (fun b => (b, mapO []) :: H) := fun a w _ ho => by
  refine ⟨w.heap.size, w.alloc (mapO []), ?_, ho.alloc _⟩
  simp [execOp, Instr.makeMap, mapO]

theorem findNow_none (s : List UInt8) : ∀ (l : List ((List UInt8 × Value) × Nat)) (i : Nat), (∀ p ∈ l, p.1.1 ≠ s) →
    Instr.findNow .string (vS s) (l.map fun p => { key := vS p.1.1, val := p.1.2, born := p.2 }) i = some none
  | [], i, _ => rfl
  | p :: l, i, h => by
    have hne := h p List.mem_cons_self
    have h0 : ((ByteArray.mk s.toArray) == (ByteArray.mk p.1.1.toArray)) = false := by
      rw [beq_toListBytes, ByteArray.toList_mk, ByteArray.toList_mk]
      simpa using fun e => hne e.symm
    simp only [List.map_cons, Instr.findNow, Instr.sameNow, h0]
    exact findNow_none s l (i + 1) fun q hq => h q (List.mem_cons_of_mem _ hq)

theorem run_checkKey_str {k : TypeId} {s : List UInt8} (em : Bool) (huk : P.underlying k = some .string) (w : World) : (Instr.checkKey em 10000 k (vS s)).run P w = .ok () w := by
  show (Instr.checkKey em (9999 + 1) k (vS s)).run P w = .ok () w
  unfold Instr.checkKey
  simp only [Sem.run_bind, run_underlying huk, Result.andThen_ok]
  rfl

/-- a key that isn't there -/
theorem Yl.lookNo {t k e : TypeId} {x y : Operand} {b : Nat} {l : List (List UInt8 × Value)} {s : List UInt8} {z : Value} {K : Obj → HL} (hu : P.underlying t = some (.map k e)) (huk : P.underlying k = some .string) (hz : ZeroIs P e z) (hx : ev F x = some (.map (some b))) (hy : ev F y = some (vS s))
    (hF : Foc H b (mapO l) K) (hn : ∀ p ∈ l, p.1 ≠ s) : Yl P F H ⟨d, .lookup t x y true, ty, pos, aft, gd⟩ (.tuple #[z, .bool false]) := fun a g w hf ho => by
  have hb := ho.at hF
  have hfn := findNow_none s l.zipIdx 0 (fun p hp => hn p.1 (by
    have := List.mem_map_of_mem (f := Prod.fst) hp
    rwa [List.zipIdx_map_fst] at this))
  have hgo : (getObj b).run P w = .ok (mapO l) w := by simp [getObj, Sem.run, hb, mapO]
  simp only [mapO] at hgo
  simp [execOp, hf.eval hx, hf.eval hy, Instr.lookup, run_underlying hu, hgo, run_checkKey_str _ huk, run_underlying huk, Instr.findKey, hfn, run_zero hz]

/-- a new key -/
theorem Skp.mapNew {t k e : TypeId} {x y z : Operand} {b : Nat} {l : List (List UInt8 × Value)} {s : List UInt8} {v : Value} {K : Obj → HL} (hu : P.underlying t = some (.map k e)) (huk : P.underlying k = some .string) (hx : ev F x = some (.map (some b))) (hy : ev F y = some (vS s)) (hv : ev F z = some v)
    (hF : Foc H b (mapO l) K) (hn : ∀ p ∈ l, p.1 ≠ s) : Skp P F g H ⟨d, .mapUpdate t x y z, ty, pos, aft, gd⟩ (K (mapO (l ++ [(s, v)]))) := fun a w hf ho => by
  have hb := ho.at hF
  have hlt : b < w.heap.size := (Array.getElem?_eq_some_iff.1 hb).1
  have hfn := findNow_none s l.zipIdx 0 (fun p hp => hn p.1 (by
    have := List.mem_map_of_mem (f := Prod.fst) hp
    rwa [List.zipIdx_map_fst] at this))
  have hgo : (getObj b).run P w = .ok (mapO l) w := by simp [getObj, Sem.run, hb, mapO]
  have hset : ∀ o, (setObj b o).run P w = .ok () { w with heap := w.heap.setIfInBounds b o } := fun o => by simp [setObj, Sem.run, hb, mapO]
  have heq : mapO (l ++ [(s, v)]) = .map ((⟨l.zipIdx.map fun p => { key := vS p.1.1, val := p.1.2, born := p.2 }⟩ : Array MapEntry).push { key := vS s, val := v, born := l.length }) (l.length + 1) := by
    simp [mapO, List.zipIdx_append]
  refine ⟨{ w with heap := w.heap.setIfInBounds b (mapO (l ++ [(s, v)])) }, ?_, ho.upd hF (by simp [hlt]) (fun c hc => by simp [Array.getElem?_setIfInBounds_ne (Ne.symm hc)]) rfl rfl⟩
  simp only [mapO] at hgo
  rw [heq]
  simp [execOp, hf.eval hx, hf.eval hy, hf.eval hv, Instr.mapUpdate, run_underlying hu, hgo, run_checkKey_str _ huk, run_underlying huk, Instr.findKey, hfn, hset]
end Go.Proofs.YtlhncphipfkkjaaGreatDoor

/- More laws: a field of a struct value, a key that is in a map. -/
namespace Go.Proofs.YtlhncphipfkkjaaGreatDoor
open Go
variable {P : Program} {F : FL} {H : HL} {g : World} {d : Option Nat} {ty : TypeId} {pos : String} {aft : Array Edge} {gd : Option (Nat × Bool)}

theorem Yl.field {s : TypeId} {fs : Array Field} {x : Operand} {f k m : Nat} {cs : List Value} {v : Value} {D : TypeDesc} (hu : P.underlying s = some (.struct fs)) (hf : (fs[f]?).map (fun f => (f.type, f.offset)) = some (k, m)) (huk : P.underlying k = some D) (hD : aggD D = false)
    (hx : ev F x = some (.agg ⟨cs⟩)) (hv : cs[m]? = some v) : Yl P F H ⟨d, .field s x f, ty, pos, aft, gd⟩ v := fun a g w hF _ => by
  obtain ⟨fd, h1, h2⟩ := Option.map_eq_some_iff.1 hf
  obtain ⟨rfl, rfl⟩ := Prod.mk.inj h2
  simp [execOp, hF.eval hx, Instr.field, run_underlying hu, h1, asAgg, part, run_isAgg' huk, hD]
  rw [hv]
  rfl

theorem Yl.fieldA {s : TypeId} {fs : Array Field} {x : Operand} {f k m : Nat} {cs vs : List Value} {D : TypeDesc} (hu : P.underlying s = some (.struct fs)) (hf : (fs[f]?).map (fun f => (f.type, f.offset)) = some (k, m)) (huk : P.underlying k = some D) (hD : aggD D = true) (hz : SizeIs P k vs.length)
    (hx : ev F x = some (.agg ⟨cs⟩)) (hv : (cs.drop m).take vs.length = vs) : Yl P F H ⟨d, .field s x f, ty, pos, aft, gd⟩ (.agg ⟨vs⟩) := fun a g w hF _ => by
  obtain ⟨fd, h1, h2⟩ := Option.map_eq_some_iff.1 hf
  obtain ⟨rfl, rfl⟩ := Prod.mk.inj h2
  have he : (⟨cs⟩ : Array Value).extract fd.offset (fd.offset + vs.length) = ⟨vs⟩ := by
    rw [List.extract_toArray]
    simp only [List.extract_eq_take_drop, Nat.add_sub_cancel_left]
    rw [hv]
  simp [execOp, hF.eval hx, Instr.field, run_underlying hu, h1, asAgg, part, run_isAgg' huk, hD, run_sizeOf' hz]
  rw [hv]

theorem findNow_some (s : List UInt8) {v : Value} : ∀ (l : List ((List UInt8 × Value) × Nat)) (i : Nat), (l.map (·.1)).lookup s = some v → ∃ j,
    Instr.findNow .string (vS s) (l.map fun p => { key := vS p.1.1, val := p.1.2, born := p.2 }) i = some (some (j, v))
  | [], i, h => by simp at h
  | p :: l, i, h => by
    by_cases e : s = p.1.1
    · have h0 : ((ByteArray.mk s.toArray) == (ByteArray.mk p.1.1.toArray)) = true := by
        rw [beq_toListBytes, ByteArray.toList_mk, ByteArray.toList_mk]; simpa using e
      have h1 : (s == p.1.1) = true := by simpa using e
      refine ⟨i, ?_⟩
      simp only [List.map_cons, Instr.findNow, Instr.sameNow, h0]
      simp only [List.map_cons, List.lookup, h1] at h
      rw [Option.some.inj h]
    · have h0 : ((ByteArray.mk s.toArray) == (ByteArray.mk p.1.1.toArray)) = false := by
        rw [beq_toListBytes, ByteArray.toList_mk, ByteArray.toList_mk]; simpa using e
      have h1 : (s == p.1.1) = false := by simpa using e
      simp only [List.map_cons, Instr.findNow, Instr.sameNow, h0]
      simp only [List.map_cons, List.lookup, h1] at h
      exact findNow_some s l (i + 1) h

theorem Yl.lookYes {t k e : TypeId} {x y : Operand} {b : Nat} {l : List (List UInt8 × Value)} {s : List UInt8} {v : Value} {K : Obj → HL} (hu : P.underlying t = some (.map k e)) (huk : P.underlying k = some .string) (hx : ev F x = some (.map (some b))) (hy : ev F y = some (vS s))
    (hF : Foc H b (mapO l) K) (hn : l.lookup s = some v) : Yl P F H ⟨d, .lookup t x y true, ty, pos, aft, gd⟩ (.tuple #[v, .bool true]) := fun a g w hf ho => by
  have hb := ho.at hF
  obtain ⟨j, hfn⟩ := findNow_some s (v := v) l.zipIdx 0 (by rwa [List.zipIdx_map_fst])
  have hgo : (getObj b).run P w = .ok (mapO l) w := by simp [getObj, Sem.run, hb, mapO]
  simp only [mapO] at hgo
  simp [execOp, hf.eval hx, hf.eval hy, Instr.lookup, run_underlying hu, hgo, run_checkKey_str _ huk, run_underlying huk, Instr.findKey, hfn]
end Go.Proofs.YtlhncphipfkkjaaGreatDoor

/- Blocks of bytes: the laws of Mem and Mem2 on lists of bytes. No function of the program is looked at here. -/
namespace Go.Proofs.YtlhncphipfkkjaaGreatDoor
open Go

variable {P : Program} {F : FL} {g : World} {H : HL} {d : Option Nat} {ty : TypeId} {pos : String} {aft : Array Edge} {gd : Option (Nat × Bool)}

theorem bV_length (l : List UInt8) : (bV l).length = l.length := by simp [bV]
theorem bV_append (l m : List UInt8) : bV (l ++ m) = bV l ++ bV m := by simp [bV]
theorem bV_take (l : List UInt8) (n : Nat) : (bV l).take n = bV (l.take n) := by simp [bV, List.map_take]
theorem bV_drop (l : List UInt8) (n : Nat) : (bV l).drop n = bV (l.drop n) := by simp [bV, List.map_drop]
theorem bV_zeros (n : Nat) : List.replicate n (Value.int .u8 0) = bV (List.replicate n 0) := by
  simp only [bV, List.map_replicate]; rfl
theorem bV_ones (l : List UInt8) : ∀ y ∈ bV l, y.oneCell' = true := by
  intro y hy; obtain ⟨c, _, rfl⟩ := List.mem_map.1 hy; rfl
theorem bV_get {l : List UInt8} {j : Nat} {c : UInt8} (h : l[j]? = some c) : (bV l)[j]? = some (.int .u8 (c.toNat : Int)) := by
  simp [bV, h, u8V]
theorem bV_set (l : List UInt8) (j : Nat) (c : UInt8) : (bV l).set j (.int .u8 (c.toNat : Int)) = bV (l.set j c) := by
  simp [bV, List.map_set, u8V]

def layB (l : List UInt8) (off : Nat) (m : List UInt8) : List UInt8 := l.take off ++ m ++ l.drop (off + m.length)
theorem lay_bV (l : List UInt8) (off : Nat) (m : List UInt8) : lay (bV l) off (bV m) = bV (layB l off m) := by
  simp only [lay, layB, bV_append, bV_take, bV_drop, bV_length]
theorem layB_length {l m : List UInt8} {off : Nat} (h : off + m.length ≤ l.length) : (layB l off m).length = l.length := by
  simp only [layB, List.length_append, List.length_take, List.length_drop]; omega

section
variable {t te e : TypeId} {x y : Operand} {b off n c : Nat} {l : List UInt8} {fr : Nat × Nat} {K : Obj → HL}

theorem Yl.loadB {j : Nat} {c : UInt8} {D : TypeDesc} (hu : P.underlying t = some D) (hd : aggD D = false) (hx : ev F x = some (pt b off)) (hF : Foc H b (.cells ⟨bV l⟩ te fr) K) (ho : off = j) (hc : l[j]? = some c) : Yl P F H ⟨d, .load t x, ty, pos, aft, gd⟩ (.int .u8 (c.toNat : Int)) :=
  Yl.load1 hu hd hx hF (by subst ho; exact bV_get hc)

theorem Yl.strB {src dst : TypeId} {m : List UInt8} (hs : P.underlying src = some (.slice e)) (he : P.underlying e = some (.int .u8)) (hd : P.underlying dst = some .string) (hx : ev F x = some (sl b off n c)) (hF : Foc H b (.cells ⟨bV l⟩ te fr) K)
    (hv : (l.drop off).take n = m) (hl : off + n ≤ l.length) : Yl P F H ⟨d, .convert src dst x, ty, pos, aft, gd⟩ (vS m) :=
  Yl.str hs he hd hx hF (by rw [← hv, List.length_take, List.length_drop]; omega) (by rw [bV_drop, bV_take, hv])

theorem Eff.makeB {i j : Nat} {k k' : IntKind} {m m' : Int} (hu : P.underlying t = some (.slice e)) (hs : SizeIs P e 1) (hb : BytesIs P e 1) (hz : ZeroIs P e (.int .u8 0))
    (hx : ev F x = some (.int k m)) (hy : ev F y = some (.int k' m')) (hm : m = (i : Int)) (hm' : m' = (j : Int)) (hi : i ≤ j) (hl : j ≤ 281474976710656) :
    Eff P F g H ⟨d, .makeSlice t x y, ty, pos, aft, gd⟩ Nat (fun b => sl b 0 i j) (fun b => (b, oC (bV (List.replicate j 0)) e) :: H) := by
  have := Eff.make (P := P) (F := F) (g := g) (H := H) (d := d) (ty := ty) (pos := pos) (aft := aft) (gd := gd) hu hs hb hz rfl hx hy hm hm' hi (by omega) (by omega)
  simpa only [bV_zeros] using this

/-- copy into a block of bytes -/
theorem Eff.copyB {t2 : TypeId} {dl cap m k : Nat} {u : Value} {news : List UInt8} (hu : P.underlying t = some (.slice te)) (hs : SizeIs P te 1)
    (hx : ev F x = some (sl b off dl cap)) (hy : ev F y = some u) (hF : Foc H b (oC (bV l) te) K) (hsrc : Src P g H 1 m u (bV news)) (hm : news.length = m) (hn : Nat.min m dl = k) (hl : off + k ≤ l.length) :
    Eff P F g H ⟨d, .call { callee := .builtin .copy, args := #[x, y], argTypes := #[t, t2] }, ty, pos, aft, gd⟩ Unit (fun _ => .int .i64 (k : Int)) (fun _ => K (oC (bV (layB l off (news.take k))) te)) := by
  have := Eff.copy (P := P) (F := F) (g := g) (d := d) (ty := ty) (pos := pos) (aft := aft) (gd := gd) (t2 := t2) hu hs hx hy hF hsrc (by rw [bV_length]; exact hm) (bV_ones news) hn (by rw [bV_length]; exact hl)
  simpa only [bV_take, lay_bV] using this

theorem Src.slB {m : Nat} {news : List UInt8} (hF : Foc H b (.cells ⟨bV l⟩ te fr) K) (hv : (l.drop off).take m = news) : Src P g H 1 m (Value.slice (some ⟨b, off, none⟩) m c) (bV news) :=
  Src.sl hF (by rw [Nat.mul_one, bV_drop, bV_take, hv])
end

/-- a slice of bytes that is nil, or has a block of its own -/
def SlB (te : TypeId) (xs : List UInt8) (v : Value) (H1 : HL) : Prop :=
  (v = .slice none 0 0 ∧ xs = [] ∧ H1 = []) ∨
  ∃ b off cap l, v = sl b off xs.length cap ∧ H1 = [(b, oC (bV l) te)] ∧ xs.length ≤ cap ∧ off + cap ≤ l.length ∧ (l.drop off).take xs.length = xs

theorem SlB.nil {te : TypeId} : SlB te [] (.slice none 0 0) [] := .inl ⟨rfl, rfl, rfl⟩
theorem SlB.mk {te : TypeId} {xs l : List UInt8} {b off n cap : Nat} (hn : n ≤ cap) (hc : off + cap ≤ l.length) (hx : (l.drop off).take n = xs) : SlB te xs (sl b off n cap) [(b, oC (bV l) te)] := by
  have : xs.length = n := by rw [← hx, List.length_take, List.length_drop]; omega
  subst this
  exact .inr ⟨b, off, cap, l, rfl, rfl, hn, hc, hx⟩


theorem Eff.appB {t t2 te : TypeId} {D : TypeDesc} {s x : Operand} {v u : Value} {m : Nat} {xs news : List UInt8} {H1 R : HL} (hu : P.underlying t = some (.slice te)) (hu2 : P.underlying t2 = some D) (hD : notInt D)
    (hs : SizeIs P te 1) (hb : BytesIs P te 1) (hz : ZeroIs P te (.int .u8 0)) (hsv : ev F s = some v) (hxv : ev F x = some u) (hv : SlB te xs v H1) (hH : ∀ w, Own g w H → Own g w (H1 ++ R)) (hsrc : Src P g H 1 m u (bV news))
    (hm : news.length = m) (hl : xs.length + news.length ≤ 140737488355328) :
    Eff P F g H ⟨d, .call { callee := .builtin .append, args := #[s, x], argTypes := #[t, t2] }, ty, pos, aft, gd⟩ { p : Value × HL // SlB te (xs ++ news) p.1 p.2 } (fun p => p.1.1) (fun p => p.1.2 ++ R) := fun a w hf ho => by
  have hlen := hsrc.1 w
  have hfst : ∀ w, Own g w H → (Builtin.firstCells 1 m u).run P w = .ok ⟨bV news⟩ w := fun w ho => by
    have := hsrc.2 w ho m (by rw [bV_length]; omega)
    rwa [Nat.mul_one, ← hm, bV_take, List.take_length, hm] at this
  have fin : ∀ (p : Value × HL) (w' : World), SlB te (xs ++ news) p.1 p.2 → Own g w' (p.2 ++ R) → (Builtin.append_ #[t, t2] ty #[v, u]).run P w = .ok p.1 w' →
      ∃ (q : { p : Value × HL // SlB te (xs ++ news) p.1 p.2 }) (w' : World), (execOp a.eval ⟨d, .call { callee := .builtin .append, args := #[s, x], argTypes := #[t, t2] }, ty, pos, aft, gd⟩).run P w = .ok (.value q.1.1) w' ∧ Own g w' (q.1.2 ++ R) := fun p w' hp ho' hr =>
    ⟨⟨p, hp⟩, w', by simp [execOp, resolve, invoke, builtin, hf.eval hsv, hf.eval hxv, hr], ho'⟩
  have ho2 := hH w ho
  have hnl : (bV news).length = m * 1 := by rw [bV_length, hm, Nat.mul_one]
  have grown : ∀ (base : Option Addr) (cap : Nat) (R' : HL), Own g w R' → (∀ p ∈ R, p ∈ R') → v = .slice base xs.length cap → (Builtin.firstCells 1 xs.length (.slice base xs.length cap)).run P w.drew = .ok ⟨bV xs⟩ w.drew → cap < xs.length + m →
      ∃ (q : { p : Value × HL // SlB te (xs ++ news) p.1 p.2 }) (w' : World), (execOp a.eval ⟨d, .call { callee := .builtin .append, args := #[s, x], argTypes := #[t, t2] }, ty, pos, aft, gd⟩).run P w = .ok (.value q.1.1) w' ∧ Own g w' (q.1.2 ++ R) := by
    intro base cap R' hoR hRR hve hold hgr
    subst hve
    have hr := run_app_grow (P := P) (ty := ty) hu hu2 hD hs hb hz hlen (hfst _ ho.drew) hold hgr (by omega) (by omega)
    have hge := grownCap_ge w (xs.length + m) cap te
    generalize grownCap w (xs.length + m) cap te = C at hr hge
    have hcells : (⟨bV xs⟩ ++ ⟨bV news⟩ ++ Builtin.zeroCells (Value.int .u8 0).cells (C - (xs.length + m)) : Array Value) = ⟨bV (xs ++ news ++ List.replicate (C - (xs.length + m)) 0)⟩ := by
      apply Array.ext'
      have hzc : (Builtin.zeroCells (Value.int .u8 0).cells (C - (xs.length + m))).toList = bV (List.replicate (C - (xs.length + m)) 0) := by
        rw [← bV_zeros]
        apply List.ext_getElem?
        intro j
        simp only [Builtin.zeroCells, Value.cells, Array.toList_map, Array.toList_range, List.getElem?_map]
        by_cases hj : j < C - (xs.length + m)
        · simp [hj, Nat.mod_one]
        · simp [hj]
      simp only [Array.toList_append, hzc, bV_append]
    rw [hcells] at hr
    refine fin (_, [(w.heap.size, oC (bV (xs ++ news ++ List.replicate (C - (xs.length + m)) 0)) te)]) _ ?_ ?_ hr
    · refine SlB.mk hge ?_ ?_
      · simp only [List.length_append, List.length_replicate, Nat.zero_add]; omega
      · rw [List.drop_zero, List.take_append_of_le_length (by simp; omega)]
        exact List.take_of_length_le (by simp; omega)
    · have := (hoR.drew.alloc (oC (bV (xs ++ news ++ List.replicate (C - (xs.length + m)) 0)) te))
      refine ⟨?_, fun p hp => ?_, this.os, this.out⟩
      · simp only [List.cons_append, List.nil_append, List.map_cons, List.nodup_cons]
        refine ⟨fun hmem => ?_, ?_⟩
        · obtain ⟨p, hp, he⟩ := List.mem_map.1 hmem
          have := hoR.lt (hRR p hp)
          omega
        · have := ho2.nodup
          rw [List.map_append, List.nodup_append] at this
          exact this.2.1
      · simp only [List.cons_append, List.nil_append] at hp
        rcases List.mem_cons.1 hp with rfl | hp
        · exact this.mem _ List.mem_cons_self
        · exact this.mem _ (List.mem_cons_of_mem _ (hRR p hp))
  rcases hv with ⟨hv, rfl, rfl⟩ | ⟨b, off, cap, l, hv, rfl, hn, hcap, htake⟩
  · by_cases hm0 : m = 0
    · subst hm0
      have hnil : news = [] := List.eq_nil_of_length_eq_zero hm
      subst hnil
      subst hv
      refine fin (.slice none 0 0, []) w SlB.nil ho2 ?_
      have hf0 := hfst w ho
      rcases hD with ⟨e2, rfl⟩ | rfl <;> simp [Builtin.append_, run_underlying hu, run_underlying hu2, run_sizeOf' hs, hlen, hf0]
    · exact grown none 0 _ ho2 (fun p hp => List.mem_append_right _ hp) hv (by simp [Builtin.firstCells, bV]) (by simp; omega)
  · subst hv
    have hbk : w.heap[b]? = some (oC (bV l) te) := ho2.mem (b, oC (bV l) te) (List.mem_append_left _ List.mem_cons_self)
    by_cases hroom : xs.length + m ≤ cap
    · have hr := run_app_room (P := P) (ty := ty) (sz := 1) hu hu2 hD hs hbk hlen (hfst w ho) hnl (bV_ones news) hroom (by rw [bV_length, Nat.mul_one]; exact hcap)
      rw [Nat.mul_one, lay_bV] at hr
      refine fin (_, [(b, oC (bV (layB l (off + xs.length) news)) te)]) _ ?_ ?_ hr
      · refine SlB.mk hroom (by rw [layB_length (by omega)]; exact hcap) ?_
        unfold layB
        rw [List.append_assoc, List.drop_append_of_le_length (by simp; omega), List.drop_take]
        have e1 : off + xs.length - off = xs.length := by omega
        rw [e1, htake, ← List.append_assoc, List.take_append_of_le_length (by simp; omega)]
        exact List.take_of_length_le (by simp; omega)
      · exact Own.setRow ho2 (K := fun o => (b, o) :: R) Foc.head
    · refine grown (some ⟨b, off, none⟩) cap _ ho2 (fun p hp => List.mem_append_right _ hp) rfl ?_ (by omega)
      have := cells_at (P := P) (w := w.drew) (vs := bV xs) (off := off) hbk (by rw [bV_length, bV_drop, bV_take, htake])
      rw [bV_length] at this
      show (loadCells _ (xs.length * 1)).run P w.drew = _
      rw [Nat.mul_one]
      exact this
end Go.Proofs.YtlhncphipfkkjaaGreatDoor

/- What the spec's functions and the program's compute, as plain Lean: CRC-32, SHA-256. -/
namespace Go.Proofs.YtlhncphipfkkjaaGreatDoor
open Go

def iterN {α : Type} (f : α → α) : Nat → α → α
  | 0, x => x
  | n + 1, x => f (iterN f n x)

/-! ## CRC-32 -/
def crcBit (x : UInt32) : UInt32 := if x &&& 1 = 1 then shr32 x 1 ^^^ 3988292384 else shr32 x 1
def crcByte (x : UInt32) (b : UInt8) : UInt32 := iterN crcBit 8 (x ^^^ b.toUInt32)
def crcL (x : UInt32) (l : List UInt8) : UInt32 := l.foldl crcByte x

theorem crcL_snoc (x : UInt32) (l : List UInt8) (k : Nat) (c : UInt8) (h : l[k]? = some c) : crcL x (l.take (k + 1)) = crcByte (crcL x (l.take k)) c := by
  obtain ⟨hlt, rfl⟩ := List.getElem?_eq_some_iff.1 h
  unfold crcL
  rw [List.take_succ_eq_append_getElem hlt, List.foldl_append]; rfl


/-! ## SHA-256 -/
def rotr (x : UInt32) (k : Nat) : UInt32 := shr32 x k ||| shl32 x (32 - k)

/-- words as cells -/
def u32V (x : UInt32) : Value := .int .u32 (x.toNat : Int)
def wV (l : List UInt32) : List Value := l.map u32V
theorem wV_length (l : List UInt32) : (wV l).length = l.length := by simp [wV]
theorem wV_get {l : List UInt32} {j : Nat} (h : j < l.length) : (wV l)[j]? = some (.int .u32 ((l.getD j 0).toNat : Int)) := by
  simp [wV, h, u32V]
theorem wV_set (l : List UInt32) (j : Nat) (x : UInt32) : (wV l).set j (.int .u32 (x.toNat : Int)) = wV (l.set j x) := by
  simp [wV, List.map_set, u32V]

def kTab : List UInt32 := [1116352408, 1899447441, 3049323471, 3921009573, 961987163, 1508970993, 2453635748, 2870763221, 3624381080, 310598401, 607225278, 1426881987, 1925078388, 2162078206, 2614888103, 3248222580, 3835390401, 4022224774, 264347078, 604807628, 770255983, 1249150122, 1555081692, 1996064986, 2554220882, 2821834349, 2952996808, 3210313671, 3336571891, 3584528711, 113926993, 338241895, 666307205, 773529912, 1294757372, 1396182291, 1695183700, 1986661051, 2177026350, 2456956037, 2730485921, 2820302411, 3259730800, 3345764771, 3516065817, 3600352804, 4094571909, 275423344, 430227734, 506948616, 659060556, 883997877, 958139571, 1322822218, 1537002063, 1747873779, 1955562222, 2024104815, 2227730452, 2361852424, 2428436474, 2756734187, 3204031479, 3329325298]
theorem kTab_length : kTab.length = 64 := rfl

/-- the i-th word of a block -/
def byteAt (s : List UInt8) (i : Nat) : UInt8 := s.getD i 0
theorem byteAt_get {s : List UInt8} {i : Nat} (h : i < s.length) : s[i]? = some (byteAt s i) := by
  simp [byteAt, h]
def be32 (s : List UInt8) (i : Nat) : UInt32 := shl32 (byteAt s (4 * i)).toUInt32 24 ||| shl32 (byteAt s (4 * i + 1)).toUInt32 16 ||| shl32 (byteAt s (4 * i + 2)).toUInt32 8 ||| (byteAt s (4 * i + 3)).toUInt32
def sg0 (x : UInt32) : UInt32 := rotr x 7 ^^^ rotr x 18 ^^^ shr32 x 3
def sg1 (x : UInt32) : UInt32 := rotr x 17 ^^^ rotr x 19 ^^^ shr32 x 10
/-- the words of the schedule, the first n of them -/
def sched (s : List UInt8) : Nat → List UInt32
  | 0 => []
  | n + 1 => sched s n ++ [if n < 16 then be32 s n else (sched s n).getD (n - 16) 0 + (sched s n).getD (n - 7) 0 + sg0 ((sched s n).getD (n - 15) 0) + sg1 ((sched s n).getD (n - 2) 0)]
theorem sched_length (s : List UInt8) (n : Nat) : (sched s n).length = n := by induction n with
  | zero => rfl
  | succ n ih => simp [sched, ih]
def schedW (s : List UInt8) (n : Nat) : List UInt32 := sched s n ++ List.replicate (64 - n) 0
theorem schedW_length {s : List UInt8} {n : Nat} (h : n ≤ 64) : (schedW s n).length = 64 := by simp [schedW, sched_length]; omega
theorem schedW_get {s : List UInt8} {n j : Nat} (h : j < n) (hn : n ≤ 64) : (wV (schedW s n))[j]? = some (.int .u32 (((sched s n).getD j 0).toNat : Int)) := by
  have hl := sched_length s n
  rw [wV_get (by rw [schedW_length hn]; omega)]
  congr 4
  unfold schedW
  rw [List.getD_eq_getElem?_getD, List.getD_eq_getElem?_getD, List.getElem?_append_left (by omega)]
theorem schedW_set {s : List UInt8} {n : Nat} {x : UInt32} (hn : n < 64) (hx : x = if n < 16 then be32 s n else (sched s n).getD (n - 16) 0 + (sched s n).getD (n - 7) 0 + sg0 ((sched s n).getD (n - 15) 0) + sg1 ((sched s n).getD (n - 2) 0)) :
    (wV (schedW s n)).set n (.int .u32 (x.toNat : Int)) = wV (schedW s (n + 1)) := by
  rw [wV_set]
  congr 1
  unfold schedW
  rw [List.set_append_right _ _ (by rw [sched_length]; exact Nat.le_refl _), sched_length, Nat.sub_self]
  have e : 64 - n = (64 - (n + 1)) + 1 := by omega
  rw [e, List.replicate_succ, List.set_cons_zero, sched, ← hx]
  simp

structure V8 where
  (a b c d e f g h : UInt32)
def V8.list (v : V8) : List UInt32 := [v.a, v.b, v.c, v.d, v.e, v.f, v.g, v.h]
def v8C (v : V8) : List Value := [.int .u32 (v.a.toNat : Int), .int .u32 (v.b.toNat : Int), .int .u32 (v.c.toNat : Int), .int .u32 (v.d.toNat : Int), .int .u32 (v.e.toNat : Int), .int .u32 (v.f.toNat : Int), .int .u32 (v.g.toNat : Int), .int .u32 (v.h.toNat : Int)]
theorem v8C_list (v : V8) : v8C v = wV v.list := rfl

def bsg1 (x : UInt32) : UInt32 := rotr x 6 ^^^ rotr x 11 ^^^ rotr x 25
def bsg0 (x : UInt32) : UInt32 := rotr x 2 ^^^ rotr x 13 ^^^ rotr x 22
def one (k w : UInt32) (v : V8) : UInt32 := v.h + (rotr v.e 6 ^^^ rotr v.e 11 ^^^ rotr v.e 25) + (v.e &&& v.f ^^^ ~~~v.e &&& v.g) + k + w
def two (v : V8) : UInt32 := (rotr v.a 2 ^^^ rotr v.a 13 ^^^ rotr v.a 22) + (v.a &&& v.b ^^^ v.a &&& v.c ^^^ v.b &&& v.c)
def rnd (k w : UInt32) (v : V8) : V8 := ⟨one k w v + two v, v.a, v.b, v.c, v.d + one k w v, v.e, v.f, v.g⟩
def rounds (s : List UInt8) : Nat → V8 → V8
  | 0, v => v
  | n + 1, v => rnd (kTab.getD n 0) ((sched s 64).getD n 0) (rounds s n v)
/-- words added, the first i of them -/
def addL (a b : List UInt32) (i : Nat) : List UInt32 := (List.zipWith (· + ·) a b).take i ++ a.drop i
theorem addL_length {a b : List UInt32} {i : Nat} (h : a.length = b.length) (hi : i ≤ a.length) : (addL a b i).length = a.length := by
  simp [addL, h]; omega
theorem addL_get {a b : List UInt32} {i : Nat} (h : a.length = b.length) (hi : i < a.length) : (addL a b i).getD i 0 = a.getD i 0 := by
  unfold addL
  rw [List.getD_eq_getElem?_getD, List.getD_eq_getElem?_getD, List.getElem?_append_right (by simp; omega)]
  simp only [List.length_take, List.length_zipWith, ← h, Nat.min_self]
  rw [Nat.min_eq_left (by omega), Nat.sub_self]
  simp
theorem addL_set {a b : List UInt32} {i : Nat} (h : a.length = b.length) (hi : i < a.length) : (addL a b i).set i (a.getD i 0 + b.getD i 0) = addL a b (i + 1) := by
  have hb : i < b.length := by omega
  unfold addL
  have hl : ((List.zipWith (· + ·) a b).take i).length = i := by simp; omega
  rw [List.set_append_right _ _ (by omega), hl, Nat.sub_self, List.drop_eq_getElem_cons hi, List.set_cons_zero, List.take_add_one]
  have hz : (List.zipWith (· + ·) a b)[i]? = some (a[i] + b[i]) := by rw [List.getElem?_zipWith, List.getElem?_eq_getElem hi, List.getElem?_eq_getElem hb]
  rw [hz]
  simp [hi, hb, List.getD]
def addV (x y : V8) : V8 := ⟨x.a + y.a, x.b + y.b, x.c + y.c, x.d + y.d, x.e + y.e, x.f + y.f, x.g + y.g, x.h + y.h⟩
theorem addL_eight (x y : V8) : addL x.list y.list 8 = (addV x y).list := rfl
/-- one block -/
def comp (h : V8) (s : List UInt8) : V8 := addV h (rounds s 64 h)
end Go.Proofs.YtlhncphipfkkjaaGreatDoor

/- What the spec's functions compute, as plain Lean on lists of bytes. -/
namespace Go.Proofs.YtlhncphipfkkjaaGreatDoor
open Go

/-- a text, with bytes 0 up to a length -/
def padN (s : List UInt8) (n : Nat) : List UInt8 := s.take n ++ List.replicate (n - s.length) 0
theorem padN_length (s : List UInt8) (n : Nat) : (padN s n).length = n := by
  simp only [padN, List.length_append, List.length_take, List.length_replicate]; omega

theorem pad_len (s : List UInt8) (n : Nat) : (layB (List.replicate n 0) 0 (s.take (Nat.min s.length n))).length = n := by
  rw [layB_length]
  · simp
  · simp; exact Nat.min_le_right _ _
theorem pad_eq (s : List UInt8) (n : Nat) : ((layB (List.replicate n 0) 0 (s.take (Nat.min s.length n))).drop 0).take n = padN s n := by
  rw [List.drop_zero, List.take_of_length_le (by rw [pad_len]; exact Nat.le_refl _)]
  have h : s.take (Nat.min s.length n) = s.take n := by
    rcases Nat.le_total s.length n with h | h
    · rw [show Nat.min s.length n = s.length from Nat.min_eq_left h, List.take_length, List.take_of_length_le h]
    · rw [show Nat.min s.length n = n from Nat.min_eq_right h]
  rw [h]
  unfold layB padN
  simp only [List.take_zero, List.nil_append, List.drop_replicate, List.length_take, Nat.zero_add]
  congr 2
  omega

/-- a number of four bytes, the lowest first -/
def four (n : UInt32) : List UInt8 := [n.toUInt8, (shr32 n 8).toUInt8, (shr32 n 16).toUInt8, (shr32 n 24).toUInt8]

/-- numbers in base 16 -/
def hexDigits : List UInt8 := [48, 49, 50, 51, 52, 53, 54, 55, 56, 57, 97, 98, 99, 100, 101, 102]
def hexDig (n : Nat) : UInt8 := hexDigits.getD n 0
theorem hexDig_get {n : Nat} (h : n < 16) : hexDigits[n]? = some (hexDig n) := by
  unfold hexDig
  rw [List.getD_eq_getElem?_getD, List.getElem?_eq_getElem (by simpa [hexDigits] using h)]
  rfl
theorem hexIdx (x c : Nat) : ((x : Int) / 2 ^ c) % 2 ^ 4 = ((x / 2 ^ c % 16 : Nat) : Int) := by push_cast; rfl
theorem hexIdx0 (x : Nat) : (x : Int) % 2 ^ 4 = ((x % 16 : Nat) : Int) := by push_cast; rfl
def hex4 (x : Nat) : List UInt8 := [hexDig (x / 2 ^ 12 % 16), hexDig (x / 2 ^ 8 % 16), hexDig (x / 2 ^ 4 % 16), hexDig (x % 16)]

/-- numbers in base 8 -/
def octD (n : Nat) : Nat → List UInt8
  | 0 => []
  | k + 1 => toU8 (48 + ((n / 8 ^ k : Nat) : Int) % 2 ^ 3) :: octD n k
theorem octD_length (n k : Nat) : (octD n k).length = k := by induction k with
  | zero => rfl
  | succ k ih => simp [octD, ih]
def octB (n digits k : Nat) : List UInt8 := List.replicate (digits - k) 0 ++ octD n k ++ [0]
theorem octB_length {n digits k : Nat} (h : k ≤ digits) : (octB n digits k).length = digits + 1 := by simp [octB, octD_length]; omega
theorem octB_zero (n digits : Nat) : octB n digits 0 = List.replicate (digits + 1) 0 := by
  simp only [octB, octD, Nat.sub_zero, List.append_nil]
  rw [← List.replicate_succ']
theorem octB_set {n digits k : Nat} (h : k < digits) : (octB n digits k).set (digits - 1 - k) (toU8 (48 + ((n / 8 ^ k : Nat) : Int) % 2 ^ 3)) = octB n digits (k + 1) := by
  obtain ⟨m, rfl⟩ : ∃ m, digits = m + 1 + k := ⟨digits - 1 - k, by omega⟩
  have e1 : m + 1 + k - k = m + 1 := by omega
  have e2 : m + 1 + k - 1 - k = m := by omega
  have e3 : m + 1 + k - (k + 1) = m := by omega
  simp only [octB, e1, e2, e3, octD]
  rw [List.replicate_succ', List.append_assoc, List.append_assoc, List.set_append_right _ _ (by simp)]
  simp
theorem oct_div (n k : Nat) : ((n / 8 ^ k : Nat) : Int) / 2 ^ 3 = ((n / 8 ^ (k + 1) : Nat) : Int) := by
  have : ((n / 8 ^ k : Nat) : Int) / 2 ^ 3 = ((n / 8 ^ k / 8 : Nat) : Int) := by push_cast; rfl
  rw [this, Nat.div_div_eq_div_mul, Nat.pow_succ]
def octal (n digits : Nat) : List UInt8 := octD n digits ++ [0]
end Go.Proofs.YtlhncphipfkkjaaGreatDoor
