/- Laws of deferred calls and of a Builder; the contracts of io.ReadAll, SHA256, Exists and the options; conditions: bounds on lengths, in each contract. -/
import Derived.Test.YtlhncphipfkkjaaGreatDoorW10
import Derived.Lib.Builder
import Derived.Lib.MakeNoZero
import Derived.Lib.UnsafeStr
import Derived.Laws.Externs
/- Calls that are deferred: a law for the deferral, and how a function that defers one call is entered and left. -/
namespace Go.Proofs.YtlhncphipfkkjaaGreatDoor
open Go
variable {P : Program}

/-- an operation that defers a call -/
def Dfy (P : Program) (F : FL) (H : HL) (o : Oper) (d : Deferred) : Prop :=
  ∀ (a : Act) (g w : World), FHas a F → Own g w H → (execOp a.eval o).run P w = .ok (.defer d) w

theorem Dfy.inv {F : FL} {H : HL} {dst : Option Nat} {r : Operand} {v : Value} {name : String} {xs : List Operand} {vs : List Value} {ts : Array TypeId} {ty : TypeId} {pos : String} {aft : Array Edge} {gd : Option (Nat × Bool)}
    (hr : ev F r = some v) (hx : evs F xs vs) : Dfy P F H ⟨dst, .defer { callee := .invoke r name, args := xs.toArray, argTypes := ts }, ty, pos, aft, gd⟩ ⟨.fn (.method name) #[], (v :: vs).toArray⟩ := fun a g w hF _ => by
  have := evs_map hF hx
  have e : xs.toArray.map a.eval = vs.toArray := by rw [List.map_toArray, this]
  simp [execOp, resolve, e, hF.eval hr]

theorem TL.dfr {ops : Array Oper} {Q : Exit → Act → World → Prop} {n : Nat} {D : List Deferred} {F : FL} {g : World} {H : HL} {rest : List Oper} {op : Op} {ty : TypeId} {pos : String} {aft : Array Edge} {d : Deferred}
    (hy : Dfy P F H ⟨none, op, ty, pos, aft, none⟩ d) (h : TL P ops Q n (d :: D) g rest F H) : TL P ops Q n D g (⟨none, op, ty, pos, aft, none⟩ :: rest) F H := fun a w hst => by
  refine wpList_plain rfl fun K hK => ?_
  unfold Oper.wp
  rw [hy a g w hst.frame hst.own, Oper.upon_defer]
  exact hK _ _ (h _ _ ⟨hst.size, by show d :: a.defers = d :: D; rw [hst.defers], hst.frame, hst.own⟩)

/-- what the end of a body that defers must show -/
def BackD (P : Program) (fn : Func) (g : World) (σ : Type) (v : σ → Value) (H' : σ → HL) (a : Act) (w : World) : Prop :=
  Leaves P fn a.tmps (fun e w' => ∃ s, e = .returned (v s) ∧ Own g w' (H' s)) a.defers .returning w

theorem Gives.enterD {f : FuncId} {fn : Func} {c : Code} {args : Array Value} {g : World} {H : HL} {σ : Type} {v : σ → Value} {H' : σ → HL} {n : Nat}
    (hf : P.funcs[f]? = some fn) (hb : fn.body = some c) (hn : fn.ntmps = n) (hs : Nat.ble args.size n = true)
    (h : TC P (mkQ (BackD P fn g σ v H') (BackD P fn g σ v H') fun _ _ _ => False) n [] g c (argsFL 0 args.toList) H) : Gives P f args g H σ v H' := by
  intro w ho
  have hle : args.size ≤ n := Nat.le_of_ble_eq_true hs
  refine calls_of_wp_defers hf hb (wp_mono (h _ w ⟨?_, rfl, ?_, ho⟩) ?_)
  · simp [hn]; omega
  · intro i u hi
    obtain ⟨_, h2⟩ := argsFL_get _ _ _ _ hi
    have hlt : i < args.size := by
      have := (List.getElem?_eq_some_iff.1 h2).1
      simpa using this
    simp only [Nat.sub_zero, Array.getElem?_toList] at h2
    rw [Array.getElem?_append_left hlt]; exact h2
  · intro e a w' q
    cases e with
    | normal => exact q
    | ret => exact q
    | _ => exact q.elim

/-- a deferred call that leaves what there is alone -/
def DefQ (P : Program) (d : Deferred) (H : HL) : Prop :=
  ∀ g w, Own g w H → ∃ fv cap f args, d.target = .fn fv cap ∧ (invoke d.target d.args).run P w = .ok (.enter f args) w ∧
    CallsD P f args .returning w fun e u' w' => u' = .returning ∧ ∃ r, e = .returned r ∧ Own g w' H

theorem leaves_nil {fn : Func} {tmps : Array Value} {R : Ending → World → Prop} {w : World} {v : Value} (hr : (results fn tmps).run P w = .ok v w) (hR : R (.returned v) w) : Leaves P fn tmps R [] .returning w := ⟨v, hr, hR⟩

theorem BackD.one {fn : Func} {g : World} {σ : Type} {v : σ → Value} {H' : σ → HL} {a : Act} {w : World} {d : Deferred} (s : σ) (hd : a.defers = [d]) (hq : DefQ P d (H' s)) (ho : Own g w (H' s))
    (hr : ∀ w, (results fn a.tmps).run P w = .ok (v s) w) : BackD P fn g σ v H' a w := by
  obtain ⟨fv, cap, f, args, ht, hi, hc⟩ := hq g w ho
  unfold BackD
  rw [hd]
  refine ⟨by simp, fv, cap, f, args, ht, hi, hc.mono fun e u' w' hh => ?_⟩
  obtain ⟨rfl, r, rfl, ho'⟩ := hh
  exact leaves_nil (hr w') ⟨s, rfl, ho'⟩

section
variable {F : FL} {g : World} {H : HL} {n : Nat} {fn : Func} {σ : Type} {v : σ → Value} {H' : σ → HL} {d : Deferred}
theorem TC.back2D {N : Act → World → Prop} {E : Nat → Act → World → Prop} {t u : Nat} {x y : Value} (s : σ) (hres : fn.results = #[.tmp t, .tmp u]) (hx : F.get t = some x) (hy : F.get u = some y) (hv : v s = .tuple #[x, y])
    (hH : ∀ w, Own g w H → Own g w (H' s)) (hq : DefQ P d (H' s)) : TC P (mkQ N (BackD P fn g σ v H') E) n [d] g .ret F H :=
  TC.ret fun a w hst => BackD.one s hst.defers hq (hH w hst.own) fun w => by rw [results_tmp2 hres, hv]; have h1 := hst.frame t _ hx; have h2 := hst.frame u _ hy; simp [h1, h2]
end

/-- the deferred call enters a body of its own -/
theorem DefQ.of_body {f : FuncId} {fn : Func} {c : Code} {name : String} {t : TypeId} {x rv : Value} {n : Nat} {H : HL} (hf : P.funcs[f]? = some fn) (hb : fn.body = some c) (hn : fn.ntmps = n) (hnm : (fn.name == "runtime.NumGoroutine") = false)
    (hm : MethodIs P t x name f rv) (hs : Nat.ble 1 n = true) {v : Value}
    (h : ∀ g, TC P (mkQ (Back P fn g Unit (fun _ => v) (fun _ => H)) (Back P fn g Unit (fun _ => v) (fun _ => H)) fun _ _ _ => False) n [] g c (argsFL 0 [rv]) H) : DefQ P ⟨.fn (.method name) #[], #[.iface t x]⟩ H := by
  intro g w ho
  refine ⟨.method name, #[], f, #[rv], rfl, by simp [invoke, callMethod, hm w, callFunc_enter hf hb hnm], ?_⟩
  have hle : 1 ≤ n := Nat.le_of_ble_eq_true hs
  refine callsD_of_wp hf hb (wp_mono (h g _ w ⟨?_, rfl, ?_, ho⟩) ?_)
  · simp [hn]; omega
  · intro i u hi
    obtain ⟨_, h2⟩ := argsFL_get _ _ _ _ hi
    have hlt : i < 1 := by
      have := (List.getElem?_eq_some_iff.1 h2).1
      simpa using this
    have : i = 0 := by omega
    subst this
    rw [Array.getElem?_append_left (by simp)]
    simpa using h2
  · intro e a w' q
    cases e with
    | normal => obtain ⟨s, h1, h2, h3⟩ := q; exact ⟨h1, _, h2, _, rfl, h3⟩
    | ret => obtain ⟨s, h1, h2, h3⟩ := q; exact ⟨h1, _, h2, _, rfl, h3⟩
    | _ => exact q.elim
end Go.Proofs.YtlhncphipfkkjaaGreatDoor

/- Laws for what package strings' Builder does: a function of the model's own, a pointer turned to unsafe.Pointer and back, a buffer of whatever bytes, an append where there is room, the bytes of a buffer as a string. -/
namespace Go.Proofs.YtlhncphipfkkjaaGreatDoor
open Go
variable {P : Program} {F : FL} {H : HL} {g : World} {d : Option Nat} {ty : TypeId} {pos : String} {aft : Array Edge} {gd : Option (Nat × Bool)}

theorem Yl.ext {f : FuncId} {fn : Func} {e : Array Value → Sem Value} {xs : List Operand} {vs : List Value} {ts : Array TypeId} {v : Value} (hf : P.funcs[f]? = some fn) (hname : (fn.name == "runtime.NumGoroutine") = false) (hb : fn.body.isNone = true) (hn : Extern.findNext fn = none)
    (he : Extern.find fn = some e) (hx : evs F xs vs) (hv : ∀ w, (e vs.toArray).run P w = .ok v w) : Yl P F H ⟨d, .call { callee := .value (.func f), args := xs.toArray, argTypes := ts }, ty, pos, aft, gd⟩ v := fun a g w hF _ => by
  have := evs_map hF hx
  have e1 : xs.toArray.map a.eval = vs.toArray := by rw [List.map_toArray, this]
  simp [execOp, resolve, Deferred.ofValue, Act.eval, invoke, e1, run_callFunc_extern hf hname hb hn he, hv w, Result.andThen]

theorem Yl.noEscape {f : FuncId} {fn : Func} {x : Operand} {ts : Array TypeId} {v : Value} (hf : P.funcs[f]? = some fn) (hname : (fn.name == "runtime.NumGoroutine") = false) (hb : fn.body.isNone = true) (hn : Extern.findNext fn = none)
    (he : Extern.find fn = some Extern.AbiNoEscape.same) (hx : ev F x = some v) : Yl P F H ⟨d, .call { callee := .value (.func f), args := #[x], argTypes := ts }, ty, pos, aft, gd⟩ v :=
  Yl.ext (xs := [x]) (vs := [v]) hf hname hb hn he ⟨hx, trivial⟩ fun _ => rfl

theorem shape_of {w : World} {b : Nat} {cs : List Value} {T : TypeId} (h : w.heap[b]? = some (oC cs T)) : w.shape? b = some (T, cs.length) := by
  simp [World.shape?, h]

theorem Yl.toUnsafe {src dst t T : TypeId} {x : Operand} {b off z : Nat} {cs : List Value} {K : Obj → HL} (hs : P.underlying src = some (.pointer t)) (hd : P.underlying dst = some .unsafePointer) (ht : (P.info? t).map (·.size) = some (z + 1))
    (hx : ev F x = some (pt b off)) (hF : Foc H b (oC cs T) K) (ho : off < cs.length) : Yl P F H ⟨d, .convert src dst x, ty, pos, aft, gd⟩ (pt b off) := fun a g w hf hw => by
  obtain ⟨j, hj, hz⟩ := Option.map_eq_some_iff.1 ht
  have := Lib.run_to_unsafe (P := P) w ⟨b, off, none⟩ hs hd hj (by omega) (shape_of (hw.at hF)) ho
  simp [execOp, hf.eval hx, this]

theorem Yl.fromUnsafe {src dst u T : TypeId} {x : Operand} {b off z n : Nat} {cs : List Value} {K : Obj → HL} (hs : P.underlying src = some .unsafePointer) (hd : P.underlying dst = some (.pointer u)) (ht : (P.info? u).map (·.size) = some z)
    (hx : ev F x = some (pt b off)) (hF : Foc H b (oC cs T) K) (hn : cs.length = n) (hl : liesAt P P.depth T (n / P.cellsOf T) off u 1 = true) : Yl P F H ⟨d, .convert src dst x, ty, pos, aft, gd⟩ (pt b off) := fun a g w hf hw => by
  obtain ⟨j, hj, hz⟩ := Option.map_eq_some_iff.1 ht
  subst hn
  have := Lib.run_from_unsafe (P := P) w ⟨b, off, none⟩ hs hd hj (shape_of (hw.at hF)) hl
  simp [execOp, hf.eval hx, this]

theorem Yl.neqPtr {t e t' : TypeId} {x y : Operand} {a : Addr} {z : Nat} (hp : P.underlying t = some (.pointer e)) (ht : (P.info? e).map (·.size) = some z) (hx : ev F x = some (.pointer (some a))) (hy : ev F y = some (.pointer (some a))) :
    Yl P F H ⟨d, .binOp .neq t x y t', ty, pos, aft, gd⟩ (.bool false) := fun ac g w hf _ => by
  obtain ⟨j, hj, hz⟩ := Option.map_eq_some_iff.1 ht
  have := Lib.run_neq_ptr_same (P := P) w a hp hj
  simp [execOp, hf.eval hx, hf.eval hy, eqGuard, this]

theorem Eff.noZero {f : FuncId} {fn : Func} {ps : Array TypeId} {t te : TypeId} {x : Operand} {n : Nat} {ts : Array TypeId} (hf : P.funcs[f]? = some fn) (hname : (fn.name == "runtime.NumGoroutine") = false) (hb : fn.body.isNone = true) (hn : Extern.findNext fn = none)
    (he : Extern.find fn = some (Extern.BytealgMakeNoZero.makeNoZero ps #[t])) (ht : P.underlying t = some (.slice te)) (hx : ev F x = some (.int .i64 (n : Int))) (hn2 : n ≤ 281474976710656) :
    Eff P F g H ⟨d, .call { callee := .value (.func f), args := #[x], argTypes := ts }, ty, pos, aft, gd⟩ { q : Nat × List Value // n ≤ q.2.length ∧ q.2.length ≤ 9223372036854775807 } (fun q => sl q.1.1 0 n q.1.2.length) (fun q => (q.1.1, oC q.1.2 te) :: H) := fun a w hF ho => by
  obtain ⟨⟨l⟩, hr, hge, hle⟩ := Lib.run_makeNoZero (P := P) w ps t te ht n hn2
  have hmax : l.length ≤ 9223372036854775807 := hle (by unfold maxLen; omega)
  refine ⟨⟨(w.heap.size, l), hge, hmax⟩, w.drew.drew.alloc (.cells ⟨l⟩ te), ?_, ho.drew.drew.alloc _⟩
  have e0 : a.eval (.func f) = .func (.func f) #[] #[] := rfl
  simp [execOp, resolve, Deferred.ofValue, e0, invoke, hF.eval hx, run_callFunc_extern hf hname hb hn he, hr, Result.andThen]

/-- an append where there is room -/
theorem Eff.appRoom {t t2 te : TypeId} {D : TypeDesc} {s x : Operand} {b off n cap m : Nat} {cs news : List Value} {u : Value} {K : Obj → HL} (hu : P.underlying t = some (.slice te)) (hu2 : P.underlying t2 = some D) (hD : notInt D) (hs : SizeIs P te 1)
    (hsv : ev F s = some (sl b off n cap)) (hxv : ev F x = some u) (hF : Foc H b (oC cs te) K) (hsrc : Src P g H 1 m u news) (hm : news.length = m) (h1 : ∀ y ∈ news, y.oneCell' = true) (hr : n + m ≤ cap) (hc : off + cap ≤ cs.length) :
    Eff P F g H ⟨d, .call { callee := .builtin .append, args := #[s, x], argTypes := #[t, t2] }, ty, pos, aft, gd⟩ Unit (fun _ => sl b off (n + m) cap) (fun _ => K (oC (lay cs (off + n) news) te)) := fun a w hf ho => by
  have hb := ho.at hF
  have hn := hsrc.2 w ho m (by omega)
  rw [Nat.mul_one, ← hm, List.take_length] at hn
  subst hm
  have hr' := run_app_room (P := P) (ty := ty) (sz := 1) (off := off) (n := n) (cap := cap) hu hu2 hD hs hb (hsrc.1 w) hn (by omega) h1 hr (by omega)
  rw [Nat.mul_one] at hr'
  refine ⟨(), w.setRow b ⟨lay cs (off + n) news⟩, by simp [execOp, resolve, invoke, builtin, hf.eval hsv, hf.eval hxv, hr'], ?_⟩
  have hlt := (Array.getElem?_eq_some_iff.1 hb).1
  exact ho.upd hF (by simp [World.setRow, Array.getElem?_modify, hb]) (fun c hc => by simp [World.setRow, Array.getElem?_modify, Ne.symm hc]) rfl rfl

theorem Yl.sliceData {t : TypeId} {ts : Array TypeId} {x : Operand} {b off n cap : Nat} (hx : ev F x = some (sl b off n cap)) (hc : 0 < cap) : Yl P F H ⟨d, .call { callee := .builtin .unsafeSliceData, args := #[x], argTypes := ts }, ty, pos, aft, gd⟩ (pt b off) := fun a g w hf _ => by
  have := Lib.run_unsafeSliceData_row (P := P) w ts ty ⟨b, off, none⟩ n cap (by omega)
  simp [execOp, resolve, invoke, builtin, hf.eval hx, this]
end Go.Proofs.YtlhncphipfkkjaaGreatDoor

/- More laws: an append of zeros whose capacity is an int; bytes laid behind bytes; lists of chunks. -/
namespace Go.Proofs.YtlhncphipfkkjaaGreatDoor
open Go
variable {P : Program} {F : FL} {H : HL} {g : World} {d : Option Nat} {ty : TypeId} {pos : String} {aft : Array Edge} {gd : Option (Nat × Bool)}

theorem Eff.appZ2 {t t2 te : TypeId} {k : IntKind} {s x : Operand} {m : Nat} (hu : P.underlying t = some (.slice te)) (hu2 : P.underlying t2 = some (.int k)) (hs : SizeIs P te 1) (hb : BytesIs P te 1) (hz : ZeroIs P te (.int .u8 0))
    (hsv : ev F s = some (.slice none 0 0)) (hxv : ev F x = some (.int .i64 (m : Int))) (hm : 0 < m) (hl : m ≤ 140737488355328) :
    Eff P F g H ⟨d, .call { callee := .builtin .append, args := #[s, x], argTypes := #[t, t2] }, ty, pos, aft, gd⟩ { q : Nat × Nat // m ≤ q.2 ∧ q.2 ≤ 9223372036854775807 } (fun q => sl q.1.1 0 m q.1.2) (fun q => (q.1.1, oC (bV (List.replicate q.1.2 0)) te) :: H) := fun a w hf ho => by
  have hr := run_appZ (P := P) (w := w) (ty := ty) (k := k) hu hu2 hs hb hz hm hl
  have hge := grownCap_ge w m 0 te
  have hle := grownCap_le_maxLen w m 0 te (by unfold maxLen; omega)
  have hmx : maxLen = 9223372036854775807 := rfl
  refine ⟨⟨(w.heap.size, grownCap w m 0 te), hge, by omega⟩, w.drew.alloc (.cells (⟨bV (List.replicate (grownCap w m 0 te) 0)⟩) te), by simp [execOp, resolve, invoke, builtin, hf.eval hsv, hf.eval hxv, hr], ?_⟩
  exact ho.drew.alloc _

theorem lay_take {cs a b : List Value} {k : Nat} (h : cs.take k = a) (ha : a.length = k) (hl : k + b.length ≤ cs.length) : (lay cs k b).take (k + b.length) = a ++ b := by
  unfold lay
  rw [h, ← ha, ← List.length_append, List.take_left]
theorem lay_length {cs b : List Value} {k : Nat} (hl : k + b.length ≤ cs.length) : (lay cs k b).length = cs.length := by
  unfold lay
  simp only [List.length_append, List.length_take, List.length_drop]
  omega
end Go.Proofs.YtlhncphipfkkjaaGreatDoor

/- Plain lemmas on the tar of the specification: where its parts lie, and that its names are distinct; no program is looked at here. -/
namespace Go.Proofs.YtlhncphipfkkjaaGreatDoor
open Go

def posT (es : List TE) (k : Nat) : Nat := (tarN es k).length
theorem posT_zero (es : List TE) : posT es 0 = 0 := rfl
theorem posT_succ {es : List TE} {k : Nat} {e : TE} (h : es[k]? = some e) : posT es (k + 1) = posT es k + (512 + e.data.length + padLen e.data.length) := by
  unfold posT; rw [tarN_succ h, List.length_append, tarOne_length]

theorem tarN_pre (es : List TE) (k j : Nat) : ∃ r, tarN es (k + j) = tarN es k ++ r := by
  induction j with
  | zero => exact ⟨[], by simp⟩
  | succ j ih =>
    obtain ⟨r, hr⟩ := ih
    refine ⟨r ++ (match es[k + j]? with | some e => tarOne e | none => []), ?_⟩
    show tarN es (k + j + 1) = _
    rw [tarN, hr, List.append_assoc]
    rfl

theorem tarT_at {es : List TE} {k : Nat} {e : TE} (h : es[k]? = some e) : ∃ r, tarT es = tarN es k ++ (tarHead e ++ r) := by
  have hlt := (List.getElem?_eq_some_iff.1 h).1
  obtain ⟨r, hr⟩ := tarN_pre es (k + 1) (es.length - (k + 1))
  have e1 : k + 1 + (es.length - (k + 1)) = es.length := by omega
  rw [e1] at hr
  refine ⟨e.data ++ padN [] (padLen e.data.length) ++ r ++ padN [] 1024, ?_⟩
  unfold tarT
  rw [hr, tarN_succ h]
  simp only [tarOne, List.append_assoc]

theorem tarT_head {es : List TE} {k : Nat} {e : TE} (h : es[k]? = some e) : ((tarT es).drop (posT es k)).take 512 = tarHead e ∧ posT es k + 512 ≤ (tarT es).length := by
  obtain ⟨r, hr⟩ := tarT_at h
  rw [hr]
  unfold posT
  refine ⟨?_, ?_⟩
  · rw [List.drop_left]
    have := tarHead_length e
    rw [← this, List.take_left]
  · rw [List.length_append, List.length_append, tarHead_length]; omega

theorem tarT_length (es : List TE) : (tarT es).length = posT es es.length + 1024 := by
  unfold tarT posT; rw [List.length_append, padN_length]

theorem tarT_end (es : List TE) : ((tarT es).drop (posT es es.length)).take 512 = List.replicate 512 0 ∧ ((tarT es).drop (posT es es.length + 512)).take 512 = List.replicate 512 0 := by
  have e1 : (tarT es).drop (posT es es.length) = List.replicate 1024 0 := by
    unfold tarT posT; rw [List.drop_left, pad_nil]
  refine ⟨?_, ?_⟩
  · rw [e1, List.take_replicate]; rfl
  · rw [← List.drop_drop, e1, List.drop_replicate, List.take_replicate]; rfl

theorem posT_le (es : List TE) (h : ∀ e ∈ es, TE.ok e) (k : Nat) : posT es k ≤ k * 1054 := by
  have := tarN_length es k 30 (fun e he => (h e he).2.2.1)
  unfold posT; omega

/-! ## Names -/
theorem mem_namesL {w : UInt16} : nameOf w ∈ namesL := by
  have h : w.toNat % 10 < namesL.length := Nat.mod_lt _ (by decide)
  rw [nameOf, List.getD_eq_getElem?_getD, List.getElem?_eq_getElem h]
  exact List.getElem_mem h

def fine (l : List UInt8) : Prop := ∀ c ∈ l, 32 ≤ c
theorem fine_name (w : UInt16) : fine (nameOf w) := by
  have : ∀ l ∈ namesL, ∀ c ∈ l, (32 : UInt8) ≤ c := by decide
  exact this _ mem_namesL
theorem fine_wh (l : List UInt8) (h : fine l) : fine (whName l) := by
  have ha := splitAt_app l l.length
  have hw : ∀ c ∈ whB, (32 : UInt8) ≤ c := by decide
  intro c hc
  unfold whName at hc
  rcases List.mem_append.1 hc with hc | hc
  · rcases List.mem_append.1 hc with hc | hc
    · exact h c (ha ▸ List.mem_append_left _ hc)
    · exact hw c hc
  · exact h c (ha ▸ List.mem_append_right _ hc)
theorem fine_ent (w : UInt16) : fine (entOf w).name := by
  unfold entOf
  split
  · exact fine_name w
  split
  · exact fine_wh _ (fine_name w)
  split
  · exact fine_name w
  · exact fine_name w
/-- a bare entry has no data -/
theorem bare_ent (w : UInt16) : (entOf w).flag = 48 ∨ (entOf w).data = [] := by
  unfold entOf
  split
  · exact .inr rfl
  split
  · exact .inr rfl
  split
  · exact .inr rfl
  · exact .inl rfl

def TE.good (e : TE) : Prop := e.ok ∧ fine e.name ∧ (e.flag = 48 ∨ e.data = [])
theorem entL_all {I : List TE → Prop} (h0 : I []) (hs : ∀ es w, I es → I (entStep es w)) (ws : List UInt16) : I (entL ws) := by
  suffices ∀ (ws : List UInt16) es, I es → I (ws.foldl entStep es) by exact this ws [] h0
  intro ws
  induction ws with
  | nil => intro es h; exact h
  | cons w ws ih => intro es h; exact ih _ (hs es w h)
theorem entL_good (ws : List UInt16) : ∀ e ∈ entL ws, e.good :=
  entL_all (I := fun es => ∀ e ∈ es, TE.good e) (by simp) (fun es w h => by
    unfold entStep
    split
    · exact h
    · intro e he
      rcases List.mem_append.1 he with he | he
      · exact h e he
      · rw [List.mem_singleton.1 he]; exact ⟨entOf_ok w, fine_ent w, bare_ent w⟩) ws
theorem entL_nodup (ws : List UInt16) : ((entL ws).map TE.name).Nodup :=
  entL_all (I := fun es => (es.map TE.name).Nodup) (by simp) (fun es w h => by
    unfold entStep
    split
    · exact h
    · rename_i hd
      rw [List.map_append, List.nodup_append]
      refine ⟨h, by simp, fun a ha b hb e => hd ?_⟩
      subst e
      simp only [List.map_cons, List.map_nil, List.mem_singleton] at hb
      obtain ⟨x, hx, rfl⟩ := List.mem_map.1 ha
      unfold dupN
      rw [List.take_length]
      exact List.any_eq_true.2 ⟨x, hx, by simpa using hb⟩) ws

theorem cut0_app (l : List UInt8) (h : fine l) (n : Nat) : cut0 (l ++ List.replicate n 0) = l := by
  induction l with
  | nil => exact cut0_zeros n
  | cons c r ih =>
    have hc : c ≠ 0 := fun e => by have := h c List.mem_cons_self; subst e; revert this; decide
    show cut0 (c :: (r ++ List.replicate n 0)) = _
    unfold cut0
    rw [if_neg hc, ih fun x hx => h x (List.mem_cons_of_mem _ hx)]
theorem cut0_name {l : List UInt8} (h : fine l) (hl : l.length ≤ 100) : cut0 (padN l 100) = l := by
  unfold padN
  rw [List.take_of_length_le hl]
  exact cut0_app l h _

/-! ## The three texts differ -/
theorem tarT_first (es : List TE) (h : ∀ e ∈ es, TE.good e) : ∃ c r, tarT es = c :: r ∧ c ≠ 31 := by
  cases es with
  | nil => exact ⟨0, List.replicate 1023 0, by unfold tarT; rw [pad_nil]; rfl, by decide⟩
  | cons e es =>
    obtain ⟨r, hr⟩ := tarT_at (es := e :: es) (k := 0) (e := e) rfl
    have hf := (h e List.mem_cons_self).2.1
    have hd : ∃ c r, padN e.name 100 = c :: r ∧ c ≠ 31 := by
      unfold padN
      cases hn : e.name with
      | nil => exact ⟨0, List.replicate 99 0, rfl, by decide⟩
      | cons c l =>
        refine ⟨c, _, by rw [List.take_succ_cons]; rfl, fun ec => ?_⟩
        have := hf c (by rw [hn]; exact List.mem_cons_self)
        subst ec; revert this; decide
    obtain ⟨c, r2, h2, hc⟩ := hd
    have h3 : ∃ r3, tarT (e :: es) = c :: r3 := by rw [hr, tarHead, tarA, h2]; exact ⟨_, rfl⟩
    obtain ⟨r3, h3⟩ := h3
    exact ⟨c, r3, h3, hc⟩
theorem three_nodup (es : List TE) (h : ∀ e ∈ es, TE.good e) (c : Nat) : [tarT es, gz (tarT es) c, tarT es ++ [120]].Nodup := by
  obtain ⟨x, r, hx, hne⟩ := tarT_first es h
  have hg : ∀ l, gz (tarT es) c = x :: l → False := fun l hl => by
    unfold gz gzHead at hl
    exact hne (by have := (List.cons.inj hl).1; exact this.symm)
  rw [List.nodup_cons, List.nodup_cons]
  refine ⟨?_, ?_, by simp⟩
  · intro hm
    rcases List.mem_cons.1 hm with hm | hm
    · exact hg r (hm ▸ hx)
    · have := congrArg List.length (List.mem_singleton.1 hm)
      rw [List.length_append] at this; simp at this
  · intro hm
    have := List.mem_singleton.1 hm
    rw [hx] at this
    exact hg _ (by rw [hx]; exact this)
theorem gzBlk_length (d : List UInt8) (c pos : Nat) (x : UInt8) : (gzBlk d c pos x).length ≤ 5 + c := by
  have := gzM_le d c pos
  unfold gzBlk
  simp only [List.length_append, List.length_cons, List.length_nil, List.length_drop, List.length_take]
  omega
theorem gzR_length (d : List UInt8) (c : Nat) : ∀ n pos, (gzR d c n pos).length ≤ n * (5 + c) + 8 := by
  intro n
  induction n with
  | zero => intro pos; simp [gzR]
  | succ n ih =>
    intro pos
    have he : (gzEnd d).length = 8 := rfl
    have h1 := gzBlk_length d c pos 1
    have h0 := gzBlk_length d c pos 0
    have hi := ih (pos + c)
    rw [Nat.succ_mul]
    unfold gzR
    split
    · rw [List.length_append, he]; omega
    · rw [List.length_append]; omega
theorem gz_length (d : List UInt8) (c : Nat) : (gz d c).length ≤ (d.length + 1) * (5 + c) + 18 := by
  have := gzR_length d c (d.length + 1) 0
  have h2 : gzHead.length = 10 := rfl
  unfold gz; rw [List.length_append]; omega
theorem gz_pos (d : List UInt8) (c : Nat) : 10 ≤ (gz d c).length := by
  unfold gz; rw [List.length_append]; show 10 ≤ 10 + _; omega
end Go.Proofs.YtlhncphipfkkjaaGreatDoor

namespace Go.Proofs.YtlhncphipfkkjaaGreatDoor
open Go
/-- bytes in a block of their own -/
structure SlE (s : List UInt8) where
  (b off cap : Nat)
  l : List UInt8
  h1 : s.length ≤ cap
  h2 : off + cap ≤ l.length
  h3 : (l.drop off).take s.length = s
def SlE.v {s : List UInt8} (e : SlE s) : Value := sl e.b e.off s.length e.cap
def SlE.H {s : List UInt8} (e : SlE s) : HL := [(e.b, oC (bV e.l) 5)]
theorem SlB.toE {s : List UInt8} {v : Value} {H1 : HL} (h : SlB 5 s v H1) (hs : 0 < s.length) : ∃ e : SlE s, v = e.v ∧ H1 = e.H := by
  rcases h with ⟨_, rfl, _⟩ | ⟨b, off, cap, l, rfl, rfl, h1, h2, h3⟩
  · simp at hs
  · exact ⟨⟨b, off, cap, l, h1, h2, h3⟩, rfl, rfl⟩
structure Chunk where
  (v : Value) (xs : List UInt8) (H1 : HL)
  h : SlB 5 xs v H1
def chH (cs : List Chunk) : HL := cs.flatMap Chunk.H1
def chV (cs : List Chunk) : List Value := cs.map Chunk.v
def chX (cs : List Chunk) : List UInt8 := cs.flatMap Chunk.xs
theorem chX_snoc (cs : List Chunk) (c : Chunk) : chX (cs ++ [c]) = chX cs ++ c.xs := by simp [chX]
theorem chV_snoc (cs : List Chunk) (c : Chunk) : chV (cs ++ [c]) = chV cs ++ [c.v] := by simp [chV]
theorem chH_snoc (cs : List Chunk) (c : Chunk) : chH (cs ++ [c]) = chH cs ++ c.H1 := by simp [chH]
theorem chX_take {cs : List Chunk} {k : Nat} {c : Chunk} (h : cs[k]? = some c) : chX (cs.take (k + 1)) = chX (cs.take k) ++ c.xs := by
  obtain ⟨hlt, rfl⟩ := List.getElem?_eq_some_iff.1 h
  rw [List.take_succ_eq_append_getElem hlt, chX_snoc]
theorem chX_le (cs : List Chunk) (k : Nat) : (chX (cs.take k)).length ≤ (chX cs).length := by
  have e : chX cs = chX (cs.take k) ++ chX (cs.drop k) := by
    unfold chX; rw [← List.flatMap_append, List.take_append_drop]
  rw [e, List.length_append]; omega
theorem chH_mem : ∀ {cs : List Chunk} {k : Nat} {c : Chunk}, cs[k]? = some c → c.H1.Sublist (chH cs)
  | [], _, _, h => by simp at h
  | c0 :: cs, 0, c, h => by
    simp only [List.getElem?_cons_zero, Option.some.injEq] at h; subst h
    show List.Sublist _ (c0.H1 ++ chH cs)
    exact List.sublist_append_left _ _
  | c0 :: cs, k + 1, c, h => by
    simp only [List.getElem?_cons_succ] at h
    show List.Sublist _ (c0.H1 ++ chH cs)
    exact (chH_mem h).trans (List.sublist_append_right _ _)
theorem perm4 {c b s e : Nat × Obj} {F : HL} : (c :: b :: s :: e :: F).Perm (s :: b :: e :: c :: F) :=
  (List.perm_append_comm (l₁ := [c]) (l₂ := [b, s, e])).append_right F |>.trans ((List.Perm.swap s b _))
theorem ch_one (c : Chunk) : c.v.oneCell' = true := c.h.one
/-- io.ReadAll's state -/
structure RA where
  cs : List Chunk
  cv : Value
  cH : HL
  (bb cap lb nx : Nat)
  l : List UInt8
def RA.i (p : RA) : Nat := (chX p.cs).length + p.lb
def RA.ok (s : List UInt8) (p : RA) : Prop :=
  SlOf 40 1 (chV p.cs) p.cv p.cH ∧ p.l.length = p.cap ∧ p.lb < p.cap ∧ 16 ≤ p.cap ∧ p.cap ≤ 9223372036854775807 ∧ p.i ≤ s.length ∧ chX p.cs ++ p.l.take p.lb = s.take p.i ∧ 2 * p.nx ≤ 3 * p.cap ∧ 256 ≤ p.nx ∧ p.nx ≤ 256 + 5 * s.length ∧ p.cs.length ≤ (chX p.cs).length
theorem a281Read (b : Nat) : ∀ w, (Go.nilAhead (Tryz.prog.types.size + Made.depth) 281 (.agg ⟨[.iface 278 (pt b 0)]⟩) "Read").run Tryz.prog w = .ok (some false) w := fun w => by kernel_rfl
theorem ra_perm {b s e x : Nat × Obj} {C H F : HL} : (b :: (C ++ (s :: x :: e :: (H ++ F)))).Perm (s :: b :: e :: (C ++ ((H ++ [x]) ++ F))) := by
  have h1 : (b :: (C ++ (s :: x :: e :: (H ++ F)))).Perm (b :: (s :: x :: e :: (C ++ (H ++ F)))) := (List.perm_append_comm_assoc C [s, x, e] (H ++ F)).cons b
  have h2 : (x :: e :: (C ++ (H ++ F))).Perm (e :: (C ++ ((H ++ [x]) ++ F))) := by
    refine (List.Perm.swap e x _).trans (List.Perm.cons e ?_)
    have : (x :: (C ++ (H ++ F))).Perm ((C ++ H) ++ (x :: F)) := by rw [← List.append_assoc]; exact List.perm_middle.symm
    refine this.trans ?_
    simp only [List.append_assoc, List.cons_append, List.nil_append]
    exact List.Perm.refl _
  exact h1.trans ((List.Perm.swap s b _).trans ((h2.cons b).cons s))
theorem ioReadAll_g (s : List UInt8) (hs : 0 < s.length) (hs2 : s.length ≤ 1000000000) (b0 : Nat) (ea : Addr) (g : World) (Fr : HL) : Gives Tryz.prog 29 #[clV b0] g ((b0, srd s 0) :: eofB ea :: Fr) (SlE s) (fun e => .tuple #[e.v, .nilIface])
    (fun e => (e.b, oC (bV e.l) 5) :: eofB ea :: Fr) := by
  refine Gives.enter Tryz.func29 rfl Tryz.ntmps29 rfl ?_
  have hdl : s.length ≤ 1099511627776 := by omega
  refine TC.seq ?_
  refine TC.region ?_
  refine TL.val (Yl.assign rfl) rfl ?_
  refine TL.val (Yl.assign rfl) rfl ?_
  refine TL.next ?_
  refine TC.seq ?_
  refine TC.region ?_
  refine TL.eff (Eff.makeB (i := 0) (j := 512) Tryz.underlying40 sz5 by5 zr5 rfl rfl rfl rfl (by omega) (by omega)) rfl fun b13 => ?_
  refine TL.val (Yl.assign rfl) rfl ?_
  refine TL.next ?_
  refine TC.seq ?_
  refine TC.region ?_
  refine TL.val (Yl.assign rfl) rfl ?_
  refine TL.next ?_
  refine TC.seq ?_
  refine TC.region ?_
  refine TL.eff (Eff.make (i := 0) (j := 4) Tryz.underlying165 sz40 by40 zr40 rfl rfl rfl rfl rfl (by omega) (by omega) (by omega)) rfl fun b14 => ?_
  refine TL.val (Yl.assign rfl) rfl ?_
  refine TL.next ?_
  refine TC.seq ?_
  refine TC.region ?_
  refine TL.val (Yl.assign rfl) rfl ?_
  refine TL.next ?_
  refine TC.block ?_
  refine TC.loopI (σ := RA) (fun p => [(0, clV b0), (4, sl p.bb 0 p.lb p.cap), (5, .int .i64 (p.nx : Int)), (6, p.cv), (7, .int .i64 ((chX p.cs).length : Int))]) (fun p => (b0, srd s p.i) :: (p.bb, oC (bV p.l) 5) :: eofB ea :: (p.cH ++ (chH p.cs ++ Fr))) (fun p => p.ok s) (fun p => s.length - p.i) ⟨[], sl b14 0 0 4, [(b14, oC (List.replicate 4 (.slice none 0 0)) 40)], b13, 512, 0, 256, List.replicate 512 0⟩ ⟨rfl, rfl, rfl, rfl, rfl, trivial⟩ (fun _ h => h.perm perm4) ⟨.inr ⟨b14, 0, 0, 4, _, rfl, rfl, by omega, by decide, rfl⟩, List.length_replicate, by show 0 < 512; omega, by show 16 ≤ 512; omega, by show 512 ≤ 9223372036854775807; omega, by show 0 ≤ _; omega, rfl, by show 2 * 256 ≤ 3 * 512; omega, by show 256 ≤ 256; omega, by show 256 ≤ _; omega, Nat.le_refl _⟩ (fun p hp => ?_)
  obtain ⟨cs, cv, cH, bb, cap, lb, nx, l⟩ := p
  obtain ⟨hv, hl, hlb, h16, hcm, hi, hx, hn1, hn0, hn2, hcc⟩ := hp
  dsimp only [RA.i] at hv hl hlb h16 hcm hi hx hn1 hn0 hn2 hcc ⊢
  have hadv : adv 0 cap lb 1 = lb := by unfold adv; rw [if_neg (by omega)]; omega
  have hadh : adv 0 cap 0 1 = 0 := by unfold adv; split <;> simp
  refine TC.block ?_
  refine TC.seq ?_
  by_cases hlt : (chX cs).length + lb < s.length
  · refine TC.draws [] Fr mixed (by kernel_rfl) rfl (fun _ h => h.sub (.cons _ (.cons _ (.cons _ ((List.sublist_append_right _ _).trans (List.sublist_append_right _ _)))))) ?_
    refine TA.pure 0 rfl (by kernel_rfl) (Yl.move rfl) rfl ?_
    refine TA.pure 1 rfl (by kernel_rfl) (Yl.move rfl) rfl ?_
    refine TA.pure 2 rfl (by kernel_rfl) (Yl.move rfl) rfl ?_
    refine TA.pure 3 rfl (by kernel_rfl) (Yl.lenL Tryz.underlying40 rfl) rfl ?_
    refine TA.pure 4 rfl (by kernel_rfl) (Yl.move rfl) rfl ?_
    refine TA.pure 5 rfl (by kernel_rfl) (Yl.capL Tryz.underlying40 rfl) rfl ?_
    refine TA.pure 6 rfl (by kernel_rfl) (Yl.slcLH (i := lb) (j := cap) Tryz.underlying40 sz5 rfl rfl rfl rfl rfl (by omega) (by omega)) rfl ?_
    rw [hadv]
    refine TA.pure 7 rfl (by kernel_rfl) (Yl.func (xs := [_]) (ys := []) (vs := [_]) (us := []) ⟨rfl, trivial⟩ trivial) rfl ?_
    refine TA.pure 8 rfl (by kernel_rfl) (Yl.nilCheckM rfl (a281Read b0)) rfl ?_
    refine TA.pure 9 rfl (by kernel_rfl) (Yl.move rfl) rfl ?_
    refine TA.one 10 (by kernel_rfl) ?_
    refine Up.call rfl rfl (Cll.inv (xs := [_]) (vs := [_]) Tryz.func192 rfl (by kernel_rfl) (m281Read b0) rfl ⟨rfl, trivial⟩) rfl (strRead_g s l ((chX cs).length + lb) hlt hdl b0 bb lb (cap - lb) (cap - lb) (by omega) g _) (fun _ => .inr (fun _ h => h.sub (.cons _ (.cons _ (.cons _ ((List.sublist_append_right _ _).trans (List.sublist_append_right _ _))))))) fun _ => ?_
    have hk1 := rdN_l s.length ((chX cs).length + lb) (cap - lb)
    have hk2 := rdN_r s.length ((chX cs).length + lb) (cap - lb)
    have hk3 : 1 ≤ rdN s.length ((chX cs).length + lb) (cap - lb) := by unfold rdN; exact Nat.le_min.2 ⟨by omega, by omega⟩
    generalize rdN s.length ((chX cs).length + lb) (cap - lb) = k at *
    have htl : ((s.drop ((chX cs).length + lb)).take k).length = k := take_len (by omega)
    have hll : (layB l lb ((s.drop ((chX cs).length + lb)).take k)).length = cap := by rw [layB_length (by rw [htl]; omega), hl]
    have hlt2 : (layB l lb ((s.drop ((chX cs).length + lb)).take k)).take (lb + k) = l.take lb ++ (s.drop ((chX cs).length + lb)).take k := by
      unfold layB
      rw [List.take_append_of_le_length (by rw [List.length_append, List.length_take, htl]; omega), List.take_of_length_le (by rw [List.length_append, List.length_take, htl]; omega)]
    have hx2 : chX cs ++ (layB l lb ((s.drop ((chX cs).length + lb)).take k)).take (lb + k) = s.take ((chX cs).length + (lb + k)) := by
      rw [hlt2, ← List.append_assoc, hx, ← Nat.add_assoc]
      exact (List.take_add ..).symm
    generalize hl'e : layB l lb ((s.drop ((chX cs).length + lb)).take k) = l' at *
    refine TA.pure 11 rfl (by kernel_rfl) (Yl.move rfl) rfl ?_
    refine TA.pure 12 rfl (by kernel_rfl) (Yl.extract rfl rfl) rfl ?_
    refine TA.pure 13 rfl (by kernel_rfl) (Yl.extract rfl rfl) rfl ?_
    refine TA.pure 14 rfl (by kernel_rfl) (Yl.assign rfl) rfl ?_
    refine TA.pure 15 rfl (by kernel_rfl) (Yl.assign rfl) rfl ?_
    refine TA.next (by kernel_rfl) ?_
    refine TC.seq ?_
    refine TC.region ?_
    refine TL.val (Yl.move rfl) rfl ?_
    refine TL.val (Yl.move rfl) rfl ?_
    refine TL.val (Yl.lenL Tryz.underlying40 rfl) rfl ?_
    refine TL.val (Yl.move rfl) rfl ?_
    refine TL.val (Yl.add (r := ((lb + k : Nat) : Int)) rfl rfl (wI (by omega))) rfl ?_
    refine TL.val (Yl.slcH (j := lb + k) Tryz.underlying40 sz5 rfl rfl rfl (by omega)) rfl ?_
    rw [hadh]
    refine TL.val (Yl.assign rfl) rfl ?_
    refine TL.next ?_
    refine TC.seq ?_
    refine TC.seq ?_
    refine TC.region ?_
    refine TL.val (Yl.move rfl) rfl ?_
    refine TL.val (Yl.neqNilN Tryz.underlying58 rfl rfl) rfl ?_
    refine TL.next ?_
    refine TC.no rfl ?_
    refine TC.skip_next ?_
    refine TC.seq ?_
    refine TC.region ?_
    refine TL.val (Yl.move rfl) rfl ?_
    refine TL.val (Yl.capL Tryz.underlying40 rfl) rfl ?_
    refine TL.val (Yl.move rfl) rfl ?_
    refine TL.val (Yl.lenL Tryz.underlying40 rfl) rfl ?_
    refine TL.val (Yl.sub (r := ((cap - (lb + k) : Nat) : Int)) rfl rfl (by rw [wI (by omega)]; omega)) rfl ?_
    refine TL.val (Yl.move rfl) rfl ?_
    refine TL.val (Yl.capL Tryz.underlying40 rfl) rfl ?_
    refine TL.val (Yl.quo (r := ((cap / 16 : Nat) : Int)) rfl rfl (by omega) (by omega) (by rw [wI (by omega)]; omega)) rfl ?_
    refine TL.val (Yl.lss rfl rfl rfl) rfl ?_
    refine TL.next ?_
    refine TC.cond rfl (fun hc75 => ?_) (fun hc75 => ?_)
    · replace hc75 := of_decide_eq_true hc75
      refine TC.seq ?_
      have hcl : (chX cs ++ l'.take (lb + k)).length = (chX cs).length + (lb + k) := by rw [List.length_append, List.length_take]; omega
      refine TC.region ?_
      refine TL.val (Yl.move rfl) rfl ?_
      refine TL.val (Yl.move rfl) rfl ?_
      refine TL.eff (Eff.lits1 [_] (vs := [sl bb 0 (lb + k) cap]) Tryz.underlying165 sz40 zr40 rfl ⟨rfl, trivial⟩ rfl rfl rfl) rfl fun b78 => ?_
      refine TL.eff (Eff.app (sz := 1) (bs := 24) (m := 1) (news := [sl bb 0 (lb + k) cap]) (R := (b0, _) :: (bb, _) :: eofB ea :: (chH cs ++ Fr)) Tryz.underlying165 Tryz.underlying165 (.inl ⟨_, rfl⟩) sz40 by40 zr40 rfl rfl rfl hv (fun _ h => Own.mid (A := [_, _, _]) (h.sub (.cons _ (.refl _)))) (Src.sl (cs := [sl bb 0 (lb + k) cap]) (K := _) (b := b78) (off := 0) .head rfl) rfl (by intro y hy; rw [List.mem_singleton.1 hy]; rfl) (by omega) (by omega) (by simp only [chV, List.length_map, List.length_cons, List.length_nil]; omega)) rfl fun c => ?_
      obtain ⟨⟨cv2, cH2⟩, hv2⟩ := c
      dsimp only at hv2 ⊢
      refine TL.val (Yl.assign rfl) rfl ?_
      refine TL.next ?_
      refine TC.seq ?_
      refine TC.region ?_
      refine TL.val (Yl.move rfl) rfl ?_
      refine TL.val (Yl.move rfl) rfl ?_
      refine TL.val (Yl.lenL Tryz.underlying40 rfl) rfl ?_
      refine TL.val (Yl.add (r := (((chX cs).length + (lb + k) : Nat) : Int)) rfl rfl (by rw [wI (by omega)]; omega)) rfl ?_
      refine TL.val (Yl.assign rfl) rfl ?_
      refine TL.next ?_
      refine TC.seq ?_
      refine TC.region ?_
      refine TL.val (Yl.move rfl) rfl ?_
      refine TL.eff (Eff.appZ2 (m := nx) Tryz.underlying40 Tryz.underlying3 sz5 by5 zr5 rfl rfl (by omega) (by omega)) rfl fun b => ?_
      have hb1 := b.2.1
      have hb2 := b.2.2
      refine TL.val (Yl.slcH (j := 0) Tryz.underlying40 sz5 rfl rfl rfl (by omega)) rfl ?_
      have hadb : adv 0 b.1.2 0 1 = 0 := by unfold adv; split <;> simp
      rw [hadb]
      refine TL.val (Yl.assign rfl) rfl ?_
      refine TL.next ?_
      refine TC.region ?_
      refine TL.val (Yl.move rfl) rfl ?_
      refine TL.val (Yl.move rfl) rfl ?_
      refine TL.val (Yl.quo (r := ((nx / 2 : Nat) : Int)) rfl rfl (by omega) (by omega) (by rw [wI (by omega)]; omega)) rfl ?_
      refine TL.val (Yl.add (r := ((nx + nx / 2 : Nat) : Int)) rfl rfl (by rw [wI (by omega)]; omega)) rfl ?_
      refine TL.val (Yl.assign rfl) rfl ?_
      obtain ⟨ch, hch1, hch2, hch3⟩ : ∃ ch : Chunk, ch.v = sl bb 0 (lb + k) cap ∧ ch.xs = l'.take (lb + k) ∧ ch.H1 = [(bb, oC (bV l') 5)] := ⟨⟨sl bb 0 (lb + k) cap, l'.take (lb + k), [(bb, oC (bV l') 5)], SlB.mk (by omega) (by omega) rfl⟩, rfl, rfl, rfl⟩
      have hX : chX (cs ++ [ch]) = s.take ((chX cs).length + (lb + k)) := by rw [chX_snoc, hch2, hx2]
      have hXl : (chX (cs ++ [ch])).length = (chX cs).length + (lb + k) := by rw [hX, List.length_take]; omega
      exact TL.done (Inv.again ⟨cs ++ [ch], cv2, cH2, b.1.1, b.1.2, 0, nx + nx / 2, List.replicate b.1.2 0⟩ ⟨by rw [chV_snoc, hch1]; exact hv2, List.length_replicate, by show 0 < b.1.2; omega, by show 16 ≤ b.1.2; omega, hb2, by show (chX (cs ++ [ch])).length + 0 ≤ _; omega, by show chX (cs ++ [ch]) ++ List.take 0 _ = s.take ((chX (cs ++ [ch])).length + 0); rw [Nat.add_zero, hXl, hX, List.take_zero, List.append_nil], by show 2 * (nx + nx / 2) ≤ 3 * b.1.2; omega, by show 256 ≤ nx + nx / 2; omega, by show nx + nx / 2 ≤ _; omega, by show (cs ++ [ch]).length ≤ (chX (cs ++ [ch])).length; rw [hXl, List.length_append]; simp only [List.length_cons, List.length_nil]; omega⟩ (by show s.length - ((chX (cs ++ [ch])).length + 0) < _; dsimp only [RA.i]; omega) ⟨rfl, rfl, rfl, rfl, (congrArg (fun z => some (Value.int .i64 z)) (by show (((chX cs).length + (lb + k) : Nat) : Int) = _; rw [hXl])), trivial⟩ (fun _ h => by show Own g _ ((b0, srd s ((chX (cs ++ [ch])).length + 0)) :: (b.1.1, _) :: eofB ea :: (cH2 ++ (chH (cs ++ [ch]) ++ Fr))); rw [hXl, chH_snoc, hch3, Nat.add_zero, ← Nat.add_assoc]; exact h.perm ra_perm))
    · replace hc75 := of_decide_eq_false hc75
      exact TC.skip (Inv.again ⟨cs, cv, cH, bb, cap, lb + k, nx, l'⟩ ⟨hv, hll, by show lb + k < cap; omega, h16, hcm, by show (chX cs).length + (lb + k) ≤ _; omega, hx2, hn1, hn0, hn2, hcc⟩ (by show s.length - ((chX cs).length + (lb + k)) < _; dsimp only [RA.i]; omega) ⟨rfl, rfl, rfl, rfl, rfl, trivial⟩ (fun _ h => by show Own g _ ((b0, srd s ((chX cs).length + (lb + k))) :: _); rw [← Nat.add_assoc]; exact h))
  · replace hlt : (chX cs).length + lb = s.length := by omega
    refine TC.draws [] Fr mixed (by kernel_rfl) rfl (fun _ h => h.sub (.cons _ (.cons _ (.cons _ ((List.sublist_append_right _ _).trans (List.sublist_append_right _ _)))))) ?_
    refine TA.pure 0 rfl (by kernel_rfl) (Yl.move rfl) rfl ?_
    refine TA.pure 1 rfl (by kernel_rfl) (Yl.move rfl) rfl ?_
    refine TA.pure 2 rfl (by kernel_rfl) (Yl.move rfl) rfl ?_
    refine TA.pure 3 rfl (by kernel_rfl) (Yl.lenL Tryz.underlying40 rfl) rfl ?_
    refine TA.pure 4 rfl (by kernel_rfl) (Yl.move rfl) rfl ?_
    refine TA.pure 5 rfl (by kernel_rfl) (Yl.capL Tryz.underlying40 rfl) rfl ?_
    refine TA.pure 6 rfl (by kernel_rfl) (Yl.slcLH (i := lb) (j := cap) Tryz.underlying40 sz5 rfl rfl rfl rfl rfl (by omega) (by omega)) rfl ?_
    rw [hadv]
    refine TA.pure 7 rfl (by kernel_rfl) (Yl.func (xs := [_]) (ys := []) (vs := [_]) (us := []) ⟨rfl, trivial⟩ trivial) rfl ?_
    refine TA.pure 8 rfl (by kernel_rfl) (Yl.nilCheckM rfl (a281Read b0)) rfl ?_
    refine TA.pure 9 rfl (by kernel_rfl) (Yl.move rfl) rfl ?_
    refine TA.one 10 (by kernel_rfl) ?_
    refine Up.call rfl rfl (Cll.inv (xs := [_]) (vs := [_]) Tryz.func192 rfl (by kernel_rfl) (m281Read b0) rfl ⟨rfl, trivial⟩) rfl ((Quiet.pull (R := (bb, _) :: (cH ++ (chH cs ++ Fr))) (.cons (by repeat (first | exact Pull.head | apply Pull.tail | apply Pull.right)) (.cons (by repeat (first | exact Pull.head | apply Pull.tail | apply Pull.right)) .nil)) (strEof_q s ((chX cs).length + lb) (by omega) (by omega) b0 _ ea)).gives (fun _ h => h)) (fun _ => .inr (fun _ h => h.sub (.cons _ (.cons _ (.cons _ ((List.sublist_append_right _ _).trans (List.sublist_append_right _ _))))))) fun _ => ?_
    refine TA.pure 11 rfl (by kernel_rfl) (Yl.move rfl) rfl ?_
    refine TA.pure 12 rfl (by kernel_rfl) (Yl.extract rfl rfl) rfl ?_
    refine TA.pure 13 rfl (by kernel_rfl) (Yl.extract rfl rfl) rfl ?_
    refine TA.pure 14 rfl (by kernel_rfl) (Yl.assign rfl) rfl ?_
    refine TA.pure 15 rfl (by kernel_rfl) (Yl.assign rfl) rfl ?_
    refine TA.next (by kernel_rfl) ?_
    refine TC.seq ?_
    refine TC.region ?_
    refine TL.val (Yl.move rfl) rfl ?_
    refine TL.val (Yl.move rfl) rfl ?_
    refine TL.val (Yl.lenL Tryz.underlying40 rfl) rfl ?_
    refine TL.val (Yl.move rfl) rfl ?_
    refine TL.val (Yl.add (r := ((lb : Nat) : Int)) rfl rfl (by rw [wI (by omega)]; omega)) rfl ?_
    refine TL.val (Yl.slcH (j := lb) Tryz.underlying40 sz5 rfl rfl rfl (by omega)) rfl ?_
    rw [hadh]
    refine TL.val (Yl.assign rfl) rfl ?_
    refine TL.next ?_
    refine TC.seq ?_
    refine TC.seq ?_
    refine TC.region ?_
    refine TL.val (Yl.move rfl) rfl ?_
    refine TL.val (Yl.neqNilI Tryz.underlying58 rfl rfl) rfl ?_
    refine TL.next ?_
    refine TC.yes rfl ?_
    refine TC.seq ?_
    refine TC.seq ?_
    refine TC.region ?_
    refine TL.val (Yl.move rfl) rfl ?_
    refine TL.val (Yl.load1 (v := eofV ea) Tryz.underlying58 rfl rfl (by repeat (first | exact Foc.head | apply Foc.tail | apply Foc.right)) rfl) rfl ?_
    refine TL.val (Yl.eqlP Tryz.underlying58 Tryz.underlying94 (SizeIs.of (n := 1) (by kernel_rfl)) (by kernel_rfl) rfl rfl) rfl ?_
    refine TL.next ?_
    refine TC.yes rfl ?_
    refine TC.region ?_
    refine TL.val (Yl.assign rfl) rfl ?_
    refine TL.next ?_
    refine TC.seq ?_
    refine TC.seq ?_
    by_cases hcs : cs = []
    · subst hcs
      refine TC.region ?_
      refine TL.val (Yl.move rfl) rfl ?_
      refine TL.val (Yl.lenOf (n := 0) (sz := 1) hv rfl (by omega) Tryz.underlying165 rfl) rfl ?_
      refine TL.val (Yl.eql rfl rfl rfl) rfl ?_
      refine TL.next ?_
      refine TC.yes rfl ?_
      refine TC.seq ?_
      refine TC.region ?_
      refine TL.val (Yl.move rfl) rfl ?_
      refine TL.val (Yl.move rfl) rfl ?_
      refine TL.val (Yl.assign rfl) rfl ?_
      refine TL.val (Yl.assign rfl) rfl ?_
      refine TL.next ?_
      have hlb2 : lb = s.length := by have : (chX ([] : List Chunk)).length = 0 := rfl; omega
      subst hlb2
      have e3 : (l.drop 0).take s.length = s := hx.trans (by rw [show (chX ([] : List Chunk)).length + s.length = s.length from Nat.zero_add _, List.take_length])
      have e1 : s.length ≤ cap := by omega
      have e2 : 0 + cap ≤ l.length := by omega
      refine TC.back2 (SlE.mk bb 0 cap l e1 e2 e3) rfl rfl rfl rfl (fun _ h => h.sub ?_)
      exact (List.Sublist.cons _ (.cons_cons _ (.cons_cons _ ((List.sublist_append_right _ _).trans (List.sublist_append_right _ _)))))
    · have hne : 0 < cs.length := List.length_pos_iff.2 hcs
      rcases hv with ⟨_, hnil, _⟩ | ⟨bc, oc, cn, cc, ccs, rfl, rfl, hcn, hcl, hct⟩
      · exact absurd (congrArg List.length hnil) (by simp only [chV, List.length_map, List.length_nil]; omega)
      have hcnl : cn = cs.length := by have := congrArg List.length hct; rw [List.length_take, List.length_drop, chV, List.length_map] at this; omega
      refine TC.region ?_
      refine TL.val (Yl.move rfl) rfl ?_
      refine TL.val (Yl.lenL Tryz.underlying165 rfl) rfl ?_
      refine TL.val (Yl.eql rfl rfl (decide_eq_false (by omega))) rfl ?_
      refine TL.next ?_
      refine TC.no rfl ?_
      refine TC.skip_next ?_
      refine TC.seq ?_
      refine TC.region ?_
      refine TL.val (Yl.move rfl) rfl ?_
      refine TL.val (Yl.move rfl) rfl ?_
      refine TL.val (Yl.lenL Tryz.underlying40 rfl) rfl ?_
      refine TL.val (Yl.add (r := (s.length : Int)) rfl rfl (by rw [wI (by omega)]; omega)) rfl ?_
      refine TL.val (Yl.assign rfl) rfl ?_
      refine TL.next ?_
      refine TC.seq ?_
      refine TC.region ?_
      refine TL.val (Yl.move rfl) rfl ?_
      refine TL.eff (Eff.appZ2 (m := s.length) Tryz.underlying40 Tryz.underlying3 sz5 by5 zr5 rfl rfl (by omega) (by omega)) rfl fun b => ?_
      have hb1 := b.2.1
      have hb2 := b.2.2
      refine TL.val (Yl.slcH (j := 0) Tryz.underlying40 sz5 rfl rfl rfl (by omega)) rfl ?_
      have hadb : adv 0 b.1.2 0 1 = 0 := by unfold adv; split <;> simp
      rw [hadb]
      refine TL.val (Yl.assign rfl) rfl ?_
      refine TL.next ?_
      refine TC.seq ?_
      refine TC.seq ?_
      refine TC.region ?_
      refine TL.val (Yl.move rfl) rfl ?_
      refine TL.val (Yl.lenL Tryz.underlying165 rfl) rfl ?_
      refine TL.val (Yl.move rfl) rfl ?_
      refine TL.next ?_
      refine TC.block ?_
      refine TC.loopI (σ := Nat × Value × HL) (fun q => [(4, sl bb 0 lb cap), (9, .nilIface), (10, q.2.1), (52, sl bc oc cn cc), (53, .int .i64 (cn : Int)), (54, .int .i64 (q.1 : Int))]) (fun q => q.2.2 ++ ((b0, srd s ((chX cs).length + lb)) :: (bb, oC (bV l) 5) :: eofB ea :: (bc, oC ccs 40) :: (chH cs ++ Fr))) (fun q => q.1 ≤ cn ∧ SlB 5 (chX (cs.take q.1)) q.2.1 q.2.2) (fun q => cn - q.1) (0, _, [(b.1.1, _)]) ⟨rfl, rfl, rfl, rfl, rfl, rfl, trivial⟩ (fun _ h => h) ⟨Nat.zero_le _, SlB.mk (n := 0) (Nat.zero_le _) (by rw [List.length_replicate]; omega) rfl⟩ (fun q hq => ?_)
      obtain ⟨j, fv, fH⟩ := q
      obtain ⟨hj, hf⟩ := hq
      dsimp only at hj hf ⊢
      refine TC.seq ?_
      refine TC.region ?_
      refine TL.val (Yl.lss rfl rfl rfl) rfl ?_
      refine TL.next ?_
      refine TC.seq ?_
      refine TC.cond rfl (fun hc55 => ?_) (fun hc55 => ?_)
      · replace hc55 := of_decide_eq_true hc55
        refine TC.skip_next ?_
        refine TC.seq ?_
        refine TC.block ?_
        refine TC.seq ?_
        obtain ⟨c, hc⟩ : ∃ c, cs[j]? = some c := ⟨cs[j]'(by omega), List.getElem?_eq_getElem (by omega)⟩
        refine TC.region ?_
        refine TL.val (Yl.idxAddrS (j := j) (o := oc + j) Tryz.underlying165 sz40 rfl rfl rfl (by omega) (by omega)) rfl ?_
        refine TL.val (Yl.load1 (v := c.v) Tryz.underlying40 rfl rfl (by repeat (first | exact Foc.head | apply Foc.tail | apply Foc.right)) (by
          have := congrArg (fun z : List Value => z[j]?) hct
          simp only [chV, List.getElem?_take, List.getElem?_drop, List.getElem?_map, hc] at this
          rwa [if_pos (by omega)] at this)) rfl ?_
        refine TL.val (Yl.assign rfl) rfl ?_
        refine TL.next ?_
        have hcx := chX_take hc
        have hcl2 := chX_le cs (j + 1)
        rw [hcx, List.length_append] at hcl2
        refine TC.region ?_
        refine TL.val (Yl.move rfl) rfl ?_
        refine TL.val (Yl.move rfl) rfl ?_
        refine TL.eff (Eff.appB (m := c.xs.length) (R := (b0, _) :: (bb, _) :: eofB ea :: (bc, _) :: (chH cs ++ Fr)) Tryz.underlying40 Tryz.underlying40 (.inl ⟨_, rfl⟩) sz5 by5 zr5 rfl rfl hf (fun _ h => h) (SlB.src (R := []) c.h (fun _ h => h.sub (by rw [List.append_nil]; exact ((chH_mem hc).trans (List.sublist_append_left _ _)).trans (((List.sublist_cons_self _ _).trans ((List.sublist_cons_self _ _).trans ((List.sublist_cons_self _ _).trans (List.sublist_cons_self _ _)))).trans (List.sublist_append_right _ _))))) rfl (by omega)) rfl fun w => ?_
        refine TL.val (Yl.assign rfl) rfl ?_
        refine TL.next ?_
        refine TC.region ?_
        refine TL.val (Yl.add rfl rfl (wI (by omega))) rfl ?_
        refine TL.val (Yl.move rfl) rfl ?_
        exact TL.done (Inv.again (j + 1, w.1.1, w.1.2) ⟨by show j + 1 ≤ cn; omega, by show SlB 5 (chX (cs.take (j + 1))) w.1.1 w.1.2; rw [chX_take hc]; exact w.2⟩ (by show cn - (j + 1) < cn - j; omega) ⟨rfl, rfl, rfl, rfl, rfl, rfl, trivial⟩ (fun _ h => h))
      · replace hc55 := of_decide_eq_false hc55
        refine TC.exit_next rfl ?_
        refine TC.seq ?_
        obtain rfl : j = cn := by omega
        rw [hcnl, List.take_length] at hf
        refine TC.region ?_
        refine TL.val (Yl.move rfl) rfl ?_
        refine TL.val (Yl.move rfl) rfl ?_
        refine TL.eff (Eff.appB (m := lb) (news := l.take lb) (R := (b0, _) :: (bb, _) :: eofB ea :: (bc, _) :: (chH cs ++ Fr)) Tryz.underlying40 Tryz.underlying40 (.inl ⟨_, rfl⟩) sz5 by5 zr5 rfl rfl hf (fun _ h => h) (Src.slB (l := l) (off := 0) (by repeat (first | exact Foc.head | apply Foc.tail | apply Foc.right)) rfl) (by rw [List.length_take]; omega) (by rw [List.length_take]; omega)) rfl fun w => ?_
        refine TL.val (Yl.assign rfl) rfl ?_
        refine TL.next ?_
        refine TC.seq ?_
        refine TC.region ?_
        refine TL.val (Yl.move rfl) rfl ?_
        refine TL.val (Yl.move rfl) rfl ?_
        refine TL.val (Yl.assign rfl) rfl ?_
        refine TL.val (Yl.assign rfl) rfl ?_
        refine TL.next ?_
        obtain ⟨⟨wv, wH⟩, hw⟩ := w
        dsimp only at hw ⊢
        rw [hx, hlt, List.take_length] at hw
        obtain ⟨e, rfl, rfl⟩ := hw.toE (by omega)
        refine TC.back2 e rfl rfl rfl rfl (fun _ h => h.sub ?_)
        exact List.Sublist.cons_cons _ (.cons _ (.cons _ (.cons_cons _ (.cons _ (List.sublist_append_right _ _)))))
end Go.Proofs.YtlhncphipfkkjaaGreatDoor

namespace Go.Proofs.YtlhncphipfkkjaaGreatDoor
open Go
theorem perm_pick {A F : HL} {x y : Nat × Obj} : (A ++ (x :: y :: F)).Perm (y :: (A ++ (x :: F))) :=
  (List.Perm.append_left A (List.Perm.swap y x F)).trans List.perm_middle
theorem perm_put {A F : HL} {x y : Nat × Obj} : (x :: y :: (A ++ F)).Perm (A ++ (x :: y :: F)) := List.perm_append_comm_assoc [x, y] A F
theorem a166Sum (b : Nat) : ∀ w, (Go.nilAhead (Tryz.prog.types.size + Made.depth) 166 (pt b 0) "Sum").run Tryz.prog w = .ok (some false) w := fun w => by kernel_rfl
theorem copyTo_g (s : List UInt8) (q : Held []) (b bh : Nat) (hs : 0 < s.length) (hl : ([] : List UInt8).length + s.length ≤ 1099511627776) (g : World) (Fr : HL) : Gives Tryz.prog 59 #[.iface 166 (pt bh 0), clV b, .slice none 0 0] g ((b, srd s 0) :: (ShaAt bh [] q.1 ++ Fr)) (Held s) (fun _ => .tuple #[.int .i64 (s.length : Int), .nilIface])
    (fun r => (b, srd s s.length) :: (ShaAt bh s r.1 ++ Fr)) := by
  refine Gives.enter Tryz.func59 rfl Tryz.ntmps59 rfl ?_
  refine TC.seq ?_
  refine TC.region ?_
  refine TL.val (Yl.assign rfl) rfl ?_
  refine TL.val (Yl.assign rfl) rfl ?_
  refine TL.next ?_
  refine TC.seq ?_
  refine TC.seq ?_
  refine TC.region ?_
  refine TL.val (Yl.move rfl) rfl ?_
  refine TL.val (Yl.asI Tryz.underlying222 rfl (by kernel_rfl)) rfl ?_
  refine TL.val (Yl.move rfl) rfl ?_
  refine TL.val (Yl.extract rfl rfl) rfl ?_
  refine TL.val (Yl.extract rfl rfl) rfl ?_
  refine TL.val (Yl.assign rfl) rfl ?_
  refine TL.val (Yl.assign rfl) rfl ?_
  refine TL.next ?_
  refine TC.seq ?_
  refine TC.region ?_
  refine TL.val (Yl.move rfl) rfl ?_
  refine TL.next ?_
  refine TC.yes rfl ?_
  refine TC.seq ?_
  refine TC.region ?_
  refine TL.val (Yl.move rfl) rfl ?_
  refine TL.val (Yl.move rfl) rfl ?_
  refine TL.call (Cll.inv (xs := [_]) (vs := [_]) Tryz.func197 rfl (by kernel_rfl) (m281WriteTo _) rfl ⟨rfl, trivial⟩) rfl (nopWriteTo_g [] s q b bh hs hl g Fr) fun r => ?_
  refine TL.val (Yl.extract rfl rfl) rfl ?_
  refine TL.val (Yl.extract rfl rfl) rfl ?_
  refine TL.val (Yl.assign rfl) rfl ?_
  refine TL.val (Yl.assign rfl) rfl ?_
  refine TL.next ?_
  exact TC.back2 r rfl rfl rfl rfl (fun _ h => h)
theorem ioCopyTo_g (s : List UInt8) (q : Held []) (b bh : Nat) (hs : 0 < s.length) (hl : ([] : List UInt8).length + s.length ≤ 1099511627776) (g : World) (Fr : HL) : Gives Tryz.prog 46 #[.iface 166 (pt bh 0), clV b] g ((b, srd s 0) :: (ShaAt bh [] q.1 ++ Fr)) (Held s) (fun _ => .tuple #[.int .i64 (s.length : Int), .nilIface])
    (fun r => (b, srd s s.length) :: (ShaAt bh s r.1 ++ Fr)) := by
  refine Gives.enter Tryz.func46 rfl Tryz.ntmps46 rfl ?_
  refine TC.seq ?_
  refine TC.region ?_
  refine TL.val (Yl.assign rfl) rfl ?_
  refine TL.val (Yl.assign rfl) rfl ?_
  refine TL.next ?_
  refine TC.seq ?_
  refine TC.region ?_
  refine TL.val (Yl.move rfl) rfl ?_
  refine TL.val (Yl.move rfl) rfl ?_
  refine TL.call (Cll.func (xs := [_, _, _]) (vs := [_, _, _]) Tryz.func59 rfl (by kernel_rfl) ⟨rfl, rfl, rfl, trivial⟩) rfl (copyTo_g s q b bh hs hl g Fr) fun r => ?_
  refine TL.val (Yl.extract rfl rfl) rfl ?_
  refine TL.val (Yl.extract rfl rfl) rfl ?_
  refine TL.val (Yl.assign rfl) rfl ?_
  refine TL.val (Yl.assign rfl) rfl ?_
  refine TL.next ?_
  exact TC.back2 r rfl rfl rfl rfl (fun _ h => h)
theorem sha256_g (s : List UInt8) (b : Nat) (hs : 0 < s.length) (hl : ([] : List UInt8).length + s.length ≤ 1099511627776) (g : World) (Fr : HL) : Gives Tryz.prog 39 #[clV b] g ((b, srd s 0) :: Fr) Unit (fun _ => .tuple #[.agg ⟨hashV (sumH s)⟩, .int .i64 (s.length : Int), .nilIface]) (fun _ => Fr) := by
  refine Gives.enter Tryz.func39 rfl Tryz.ntmps39 rfl ?_
  refine TC.seq ?_
  refine TC.region ?_
  refine TL.eff (Eff.alloc zr53 rfl) rfl fun b2 => ?_
  refine TL.val (Yl.assign rfl) rfl ?_
  refine TL.val (Yl.assign rfl) rfl ?_
  refine TL.next ?_
  refine TC.seq ?_
  refine TC.region ?_
  refine TL.call (Cll.func (xs := []) (vs := []) Tryz.func30 rfl (by kernel_rfl) trivial) rfl (new256_g g _) fun q => ?_
  obtain ⟨bh, q⟩ := q
  dsimp only
  refine TL.val (Yl.assign rfl) rfl ?_
  refine TL.next ?_
  refine TC.seq ?_
  refine TC.region ?_
  refine TL.val (Yl.move rfl) rfl ?_
  refine TL.val (Yl.move rfl) rfl ?_
  refine TL.call (Cll.func (xs := [_, _]) (vs := [_, _]) Tryz.func46 rfl (by kernel_rfl) ⟨rfl, rfl, trivial⟩) rfl (Gives.of (fun _ h => h.perm perm_pick) (ioCopyTo_g s q b bh hs hl g ((b2, _) :: Fr))) fun r => ?_
  refine TL.val (Yl.move rfl) rfl ?_
  refine TL.val (Yl.extract rfl rfl) rfl ?_
  refine TL.val (Yl.extract rfl rfl) rfl ?_
  refine TL.val (Yl.assign rfl) rfl ?_
  refine TL.val (Yl.assign rfl) rfl ?_
  refine TL.next ?_
  refine TC.seq ?_
  refine TC.seq ?_
  refine TC.region ?_
  refine TL.val (Yl.move rfl) rfl ?_
  refine TL.val (Yl.neqNilN Tryz.underlying58 rfl rfl) rfl ?_
  refine TL.next ?_
  refine TC.no rfl ?_
  refine TC.skip_next ?_
  refine TC.seq ?_
  refine TC.draws [11] Fr mixed (by kernel_rfl) rfl (fun _ h => h.sub (.cons _ ((List.sublist_cons_self _ _).trans (List.sublist_append_right _ _)))) ?_
  refine TA.pure 0 rfl (by kernel_rfl) (Yl.move rfl) rfl ?_
  refine TA.pure 1 rfl (by kernel_rfl) (Yl.move rfl) rfl ?_
  refine TA.quiet 2 rfl (by kernel_rfl) (Cll.inv (xs := []) (vs := []) Tryz.func177 rfl (by kernel_rfl) (m166Size _) rfl trivial) rfl (Quiet.none (size_q bh)) ?_
  refine TA.pure 4 rfl (by kernel_rfl) (Yl.func (xs := [_]) (ys := []) (vs := [_]) (us := []) ⟨rfl, trivial⟩ trivial) rfl ?_
  refine TA.pure 5 rfl (by kernel_rfl) (Yl.nilCheckM rfl (a166Sum bh)) rfl ?_
  refine TA.pure 6 rfl (by kernel_rfl) (Yl.move rfl) rfl ?_
  refine TA.pure 10 rfl (by kernel_rfl) (Yl.move rfl) rfl ?_
  refine TA.one 3 (by kernel_rfl) ?_
  refine Up.eff rfl rfl (Eff.makeB (i := 0) (j := 32) Tryz.underlying40 sz5 by5 zr5 rfl rfl rfl rfl (by omega) (by omega)) rfl (fun _ => .inr (fun _ h => h.sub (by repeat (first | exact List.Sublist.refl _ | exact List.sublist_append_right _ _ | refine List.Sublist.cons_cons _ ?_ | refine List.Sublist.append (List.Sublist.refl _) ?_ | refine List.Sublist.cons _ ?_ | refine List.Sublist.trans ?_ (List.sublist_append_right _ _))))) fun b22 => ?_
  refine TA.one 7 (by kernel_rfl) ?_
  refine Up.call rfl rfl (Cll.inv (xs := [_]) (vs := [_]) Tryz.func178 rfl (by kernel_rfl) (m166Sum _) rfl ⟨rfl, trivial⟩) rfl (Gives.of (fun _ h => h.perm perm_put) (sumSha_g s [] r (sl b22 0 0 32) [(b22, _)] (SlB.mk (n := 0) (by omega) (by rw [List.length_replicate]; omega) rfl) (by omega) (by decide) bh g ((b, _) :: (b2, _) :: Fr))) (fun _ => .inr (fun _ h => h.sub (by repeat (first | exact List.Sublist.refl _ | exact List.sublist_append_right _ _ | refine List.Sublist.cons_cons _ ?_ | refine List.Sublist.append (List.Sublist.refl _) ?_ | refine List.Sublist.cons _ ?_ | refine List.Sublist.trans ?_ (List.sublist_append_right _ _))))) fun u => ?_
  refine TA.one 8 (by kernel_rfl) ?_
  refine Up.call rfl rfl (Cll.func (xs := [_]) (vs := [_]) Tryz.func38 rfl (by kernel_rfl) ⟨rfl, trivial⟩) rfl ((hexHex_q ([] ++ dig s) u.1.1 u.1.2 u.2 (by rw [List.nil_append, dig_length]; omega)).gives (fun _ h => h.sub (List.sublist_append_left _ _))) (fun _ => .inr (fun _ h => h.sub (by repeat (first | exact List.Sublist.refl _ | exact List.sublist_append_right _ _ | refine List.Sublist.cons_cons _ ?_ | refine List.Sublist.append (List.Sublist.refl _) ?_ | refine List.Sublist.cons _ ?_ | refine List.Sublist.trans ?_ (List.sublist_append_right _ _))))) fun _ => ?_
  rw [show hexB ([] ++ dig s) = sumH s from hexB_sum s]
  refine TA.pure 9 rfl (by kernel_rfl) (Yl.build (ixs := [0, 1]) (vs := [_, _]) (rs := [_, _]) [_, _] st53 rfl ⟨rfl, rfl, trivial⟩ rfl) rfl ?_
  refine TA.one 11 (by kernel_rfl) ?_
  refine Up.skp rfl rfl (Skp.storeA (vs := hashV (sumH s)) sz53 rfl rfl rfl (by repeat (first | exact Foc.head | apply Foc.tail | apply Foc.right)) (Nat.le_of_ble_eq_true rfl) rfl) (.inl rfl) ?_
  refine TA.pure 12 rfl (by kernel_rfl) (Yl.assign rfl) rfl ?_
  refine TA.pure 13 rfl (by kernel_rfl) (Yl.assign rfl) rfl ?_
  refine TA.next (by kernel_rfl) ?_
  exact TC.backC2 () rfl rfl rfl rfl Tryz.underlying53 rfl (vs := hashV (sumH s)) sz53 (by repeat (first | exact Foc.head | apply Foc.tail | apply Foc.right)) rfl rfl (fun _ h => h.sub (by repeat (first | exact List.Sublist.refl _ | exact List.sublist_append_right _ _ | refine List.Sublist.cons_cons _ ?_ | refine List.Sublist.append (List.Sublist.refl _) ?_ | refine List.Sublist.cons _ ?_ | refine List.Sublist.trans ?_ (List.sublist_append_right _ _))))
theorem errNew_g (l : List UInt8) (g : World) (Fr : HL) : Gives Tryz.prog 25 #[vS l] g Fr Nat (fun b => .iface 94 (pt b 0)) (fun _ => Fr) := by
  refine Gives.enter Tryz.func25 rfl Tryz.ntmps25 rfl ?_
  refine TC.seq ?_
  refine TC.region ?_
  refine TL.val (Yl.assign rfl) rfl ?_
  refine TL.next ?_
  refine TC.seq ?_
  refine TC.region ?_
  refine TL.val (Yl.move rfl) rfl ?_
  refine TL.val (Yl.build (ixs := [0]) (vs := [_]) (rs := [_]) [_] st96 rfl ⟨rfl, trivial⟩ rfl) rfl ?_
  refine TL.eff (Eff.box (v := .agg ⟨[vS l]⟩) rfl rfl) rfl fun b5 => ?_
  refine TL.val (Yl.iface Tryz.underlying94 rfl rfl) rfl ?_
  refine TL.val (Yl.assign rfl) rfl ?_
  refine TL.next ?_
  exact TC.back1 (σ := Nat) b5 rfl rfl (fun _ h => h.sub (by repeat (first | exact List.Sublist.refl _ | exact List.sublist_append_right _ _ | refine List.Sublist.cons_cons _ ?_ | refine List.Sublist.append (List.Sublist.refl _) ?_ | refine List.Sublist.cons _ ?_ | refine List.Sublist.trans ?_ (List.sublist_append_right _ _))))
theorem unwrap_q (v : Value) : Quiet Tryz.prog 28 #[.iface 56 v] [] (.iface 56 v) := by
  refine Quiet.of_gives fun g Fr => ?_
  refine Gives.enter Tryz.func28 rfl Tryz.ntmps28 rfl ?_
  refine TC.seq ?_
  refine TC.region ?_
  refine TL.val (Yl.assign rfl) rfl ?_
  refine TL.next ?_
  refine TC.seq ?_
  refine TC.seq ?_
  refine TC.region ?_
  refine TL.val (Yl.move rfl) rfl ?_
  refine TL.val (Yl.noT Tryz.underlying137 rfl rfl rfl zr137) rfl ?_
  refine TL.val (Yl.move rfl) rfl ?_
  refine TL.val (Yl.extract rfl rfl) rfl ?_
  refine TL.val (Yl.extract rfl rfl) rfl ?_
  refine TL.val (Yl.assign rfl) rfl ?_
  refine TL.val (Yl.assign rfl) rfl ?_
  refine TL.next ?_
  refine TC.seq ?_
  refine TC.region ?_
  refine TL.val (Yl.move rfl) rfl ?_
  refine TL.next ?_
  refine TC.no rfl ?_
  refine TC.skip_next ?_
  refine TC.seq ?_
  refine TC.seq ?_
  refine TC.region ?_
  refine TL.val (Yl.move rfl) rfl ?_
  refine TL.val (Yl.noT Tryz.underlying145 rfl rfl rfl zr145) rfl ?_
  refine TL.val (Yl.move rfl) rfl ?_
  refine TL.val (Yl.extract rfl rfl) rfl ?_
  refine TL.val (Yl.extract rfl rfl) rfl ?_
  refine TL.val (Yl.assign rfl) rfl ?_
  refine TL.val (Yl.assign rfl) rfl ?_
  refine TL.next ?_
  refine TC.seq ?_
  refine TC.region ?_
  refine TL.val (Yl.move rfl) rfl ?_
  refine TL.next ?_
  refine TC.no rfl ?_
  refine TC.skip_next ?_
  refine TC.seq ?_
  refine TC.seq ?_
  refine TC.region ?_
  refine TL.val (Yl.move rfl) rfl ?_
  refine TL.val (Yl.noT Tryz.underlying151 rfl rfl rfl zr151) rfl ?_
  refine TL.val (Yl.move rfl) rfl ?_
  refine TL.val (Yl.extract rfl rfl) rfl ?_
  refine TL.val (Yl.extract rfl rfl) rfl ?_
  refine TL.val (Yl.assign rfl) rfl ?_
  refine TL.val (Yl.assign rfl) rfl ?_
  refine TL.next ?_
  refine TC.seq ?_
  refine TC.region ?_
  refine TL.val (Yl.move rfl) rfl ?_
  refine TL.next ?_
  refine TC.no rfl ?_
  refine TC.skip_next ?_
  refine TC.seq ?_
  refine TC.seq ?_
  refine TC.region ?_
  refine TL.val (Yl.move rfl) rfl ?_
  refine TL.val (Yl.noT Tryz.underlying159 rfl rfl rfl zr159) rfl ?_
  refine TL.val (Yl.move rfl) rfl ?_
  refine TL.val (Yl.extract rfl rfl) rfl ?_
  refine TL.val (Yl.extract rfl rfl) rfl ?_
  refine TL.val (Yl.assign rfl) rfl ?_
  refine TL.val (Yl.assign rfl) rfl ?_
  refine TL.next ?_
  refine TC.seq ?_
  refine TC.region ?_
  refine TL.val (Yl.move rfl) rfl ?_
  refine TL.next ?_
  refine TC.no rfl ?_
  refine TC.skip_next ?_
  refine TC.seq ?_
  refine TC.region ?_
  refine TL.val (Yl.move rfl) rfl ?_
  refine TL.val (Yl.assign rfl) rfl ?_
  refine TL.next ?_
  exact TC.back1 () rfl rfl (fun _ h => h.sub (by repeat (first | exact List.Sublist.refl _ | exact List.sublist_append_right _ _ | refine List.Sublist.cons_cons _ ?_ | refine List.Sublist.append (List.Sublist.refl _) ?_ | refine List.Sublist.cons _ ?_ | refine List.Sublist.trans ?_ (List.sublist_append_right _ _))))
theorem fast_g (x : Bool) (b : Nat) (g : World) (Fr : HL) : Gives Tryz.prog 20 #[pt b 0] g ((b, oC [.bool x] 67) :: Fr) Unit (fun _ => .tuple #[]) (fun _ => (b, oC [.bool true] 67) :: Fr) := by
  refine Gives.enter Tryz.func20 rfl Tryz.ntmps20 rfl ?_
  refine TC.region ?_
  refine TL.val (Yl.move rfl) rfl ?_
  refine TL.val (Yl.nilCheckP rfl) rfl ?_
  refine TL.val (Yl.fieldAddr (k := 4) (m := 0) (o := 0) Tryz.underlying67 rfl sz4 rfl rfl) rfl ?_
  refine TL.skp (Skp.store1 (cs' := [.bool true]) sz4 rfl rfl rfl (by repeat (first | exact Foc.head | apply Foc.tail | apply Foc.right)) (Nat.le_of_ble_eq_true rfl) rfl) ?_
  exact TL.done (Back.end0 () rfl rfl (fun _ h => h))
theorem makeOpts_g (g : World) (Fr : HL) : Gives Tryz.prog 23 #[.slice none 0 0] g Fr Unit (fun _ => .agg ⟨[.bool false]⟩) (fun _ => Fr) := by
  refine Gives.enter Tryz.func23 rfl Tryz.ntmps23 rfl ?_
  refine TC.seq ?_
  refine TC.region ?_
  refine TL.eff (Eff.alloc zr67 rfl) rfl fun b2 => ?_
  refine TL.next ?_
  refine TC.seq ?_
  refine TC.region ?_
  refine TL.val (Yl.build (ixs := [0]) (vs := [_]) (rs := [_]) [_] st67 rfl ⟨rfl, trivial⟩ rfl) rfl ?_
  refine TL.eff (Eff.alloc zr67 rfl) rfl fun b3 => ?_
  refine TL.skp (Skp.storeA (vs := [_]) sz67 rfl rfl rfl (by repeat (first | exact Foc.head | apply Foc.tail | apply Foc.right)) (Nat.le_of_ble_eq_true rfl) rfl) ?_
  refine TL.next ?_
  refine TC.seq ?_
  refine TC.seq ?_
  refine TC.region ?_
  refine TL.val (Yl.move rfl) rfl ?_
  refine TL.val (Yl.lenL Tryz.underlying65 rfl) rfl ?_
  refine TL.val (Yl.move rfl) rfl ?_
  refine TL.next ?_
  refine TC.block ?_
  refine TC.loopI (σ := Unit) (fun u => [(2, pt b2 0), (3, pt b3 0), (8, .int .i64 0), (9, .int .i64 0)]) (fun u => (b3, oC [.bool false] 67) :: (b2, oC [.bool false] 67) :: Fr) (fun u => True) (fun u => 0) () ⟨rfl, rfl, rfl, rfl, trivial⟩ (fun _ h => h) trivial (fun u hu => ?_)
  refine TC.seq ?_
  refine TC.region ?_
  refine TL.val (Yl.lss rfl rfl rfl) rfl ?_
  refine TL.next ?_
  refine TC.seq ?_
  refine TC.no rfl ?_
  refine TC.exit_next rfl ?_
  refine TC.seq ?_
  refine TC.region ?_
  refine TL.val (Yl.loadA (vs := [.bool false]) Tryz.underlying67 rfl sz67 rfl (by repeat (first | exact Foc.head | apply Foc.tail | apply Foc.right)) rfl) rfl ?_
  refine TL.skp (Skp.storeA (vs := [.bool false]) sz67 rfl rfl rfl (by repeat (first | exact Foc.head | apply Foc.tail | apply Foc.right)) (Nat.le_of_ble_eq_true rfl) rfl) ?_
  refine TL.next ?_
  exact TC.backC () rfl rfl Tryz.underlying67 rfl (vs := [.bool false]) sz67 (by repeat (first | exact Foc.head | apply Foc.tail | apply Foc.right)) rfl rfl (fun _ h => h.sub (by repeat (first | exact List.Sublist.refl _ | exact List.sublist_append_right _ _ | refine List.Sublist.cons_cons _ ?_ | refine List.Sublist.append (List.Sublist.refl _) ?_ | refine List.Sublist.cons _ ?_ | refine List.Sublist.trans ?_ (List.sublist_append_right _ _))))
theorem makeOptsF_g (bo : Nat) (g : World) (Fr : HL) : Gives Tryz.prog 23 #[sl bo 0 1 1] g ((bo, oC [.func (.func 20) #[] #[]] 83) :: Fr) Unit (fun _ => .agg ⟨[.bool true]⟩) (fun _ => (bo, oC [.func (.func 20) #[] #[]] 83) :: Fr) := by
  refine Gives.enter Tryz.func23 rfl Tryz.ntmps23 rfl ?_
  refine TC.seq ?_
  refine TC.region ?_
  refine TL.eff (Eff.alloc zr67 rfl) rfl fun b2 => ?_
  refine TL.next ?_
  refine TC.seq ?_
  refine TC.region ?_
  refine TL.val (Yl.build (ixs := [0]) (vs := [_]) (rs := [_]) [_] st67 rfl ⟨rfl, trivial⟩ rfl) rfl ?_
  refine TL.eff (Eff.alloc zr67 rfl) rfl fun b3 => ?_
  refine TL.skp (Skp.storeA (vs := [_]) sz67 rfl rfl rfl (by repeat (first | exact Foc.head | apply Foc.tail | apply Foc.right)) (Nat.le_of_ble_eq_true rfl) rfl) ?_
  refine TL.next ?_
  refine TC.seq ?_
  refine TC.seq ?_
  refine TC.region ?_
  refine TL.val (Yl.move rfl) rfl ?_
  refine TL.val (Yl.lenL Tryz.underlying65 rfl) rfl ?_
  refine TL.val (Yl.move rfl) rfl ?_
  refine TL.next ?_
  refine TC.block ?_
  refine TC.loopI (σ := Nat) (fun k => [(2, pt b2 0), (3, pt b3 0), (7, sl bo 0 1 1), (8, .int .i64 1), (9, .int .i64 (k : Int))]) (fun k => (b3, oC [.bool (decide (k = 1))] 67) :: (b2, oC [.bool false] 67) :: (bo, oC [.func (.func 20) #[] #[]] 83) :: Fr) (fun k => k ≤ 1) (fun k => 1 - k) 0 ⟨rfl, rfl, rfl, rfl, rfl, trivial⟩ (fun _ h => h) (Nat.zero_le _) (fun k hk => ?_)
  refine TC.seq ?_
  refine TC.region ?_
  refine TL.val (Yl.lss rfl rfl rfl) rfl ?_
  refine TL.next ?_
  refine TC.seq ?_
  refine TC.cond rfl (fun hc10 => ?_) (fun hc10 => ?_)
  · replace hc10 := of_decide_eq_true hc10
    refine TC.skip_next ?_
    refine TC.seq ?_
    refine TC.block ?_
    refine TC.seq ?_
    obtain rfl : k = 0 := by omega
    refine TC.region ?_
    refine TL.val (Yl.idxAddrS (j := 0) (o := 0) Tryz.underlying65 sz83 rfl rfl rfl (by omega) rfl) rfl ?_
    refine TL.val (Yl.load1 Tryz.underlying83 rfl rfl (by repeat (first | exact Foc.head | apply Foc.tail | apply Foc.right)) rfl) rfl ?_
    refine TL.val (Yl.assign rfl) rfl ?_
    refine TL.next ?_
    refine TC.region ?_
    refine TL.val (Yl.move rfl) rfl ?_
    refine TL.call (Cll.clo (xs := [_]) (vs := [_]) Tryz.func20 rfl (by kernel_rfl) rfl ⟨rfl, trivial⟩) rfl (fast_g false b3 g _) fun _ => ?_
    refine TL.next ?_
    refine TC.region ?_
    refine TL.val (Yl.add rfl rfl (wI (by omega))) rfl ?_
    refine TL.val (Yl.move rfl) rfl ?_
    exact TL.done (Inv.again 1 (Nat.le_refl _) (by omega) ⟨rfl, rfl, rfl, rfl, rfl, trivial⟩ (fun _ h => h))
  · replace hc10 := of_decide_eq_false hc10
    refine TC.exit_next rfl ?_
    refine TC.seq ?_
    obtain rfl : k = 1 := by omega
    refine TC.region ?_
    refine TL.val (Yl.loadA (vs := [.bool true]) Tryz.underlying67 rfl sz67 rfl (by repeat (first | exact Foc.head | apply Foc.tail | apply Foc.right)) rfl) rfl ?_
    refine TL.skp (Skp.storeA (vs := [.bool true]) sz67 rfl rfl rfl (by repeat (first | exact Foc.head | apply Foc.tail | apply Foc.right)) (Nat.le_of_ble_eq_true rfl) rfl) ?_
    refine TL.next ?_
    exact TC.backC () rfl rfl Tryz.underlying67 rfl (vs := [.bool true]) sz67 (by repeat (first | exact Foc.head | apply Foc.tail | apply Foc.right)) rfl rfl (fun _ h => h.sub (by repeat (first | exact List.Sublist.refl _ | exact List.sublist_append_right _ _ | refine List.Sublist.cons_cons _ ?_ | refine List.Sublist.append (List.Sublist.refl _) ?_ | refine List.Sublist.cons _ ?_ | refine List.Sublist.trans ?_ (List.sublist_append_right _ _))))
theorem closeD (b : Nat) (H : HL) : DefQ Tryz.prog ⟨.fn (.method "Close") #[], #[clV b]⟩ H := by
  refine DefQ.of_body (v := .nilIface) Tryz.func196 rfl Tryz.ntmps196 (by kernel_rfl) (m281Close _) rfl fun g => ?_
  refine TC.seq ?_
  refine TC.region ?_
  refine TL.eff (Eff.box (v := .agg ⟨[.iface 278 (pt b 0)]⟩) rfl rfl) rfl fun b1 => ?_
  refine TL.val (Yl.assign rfl) rfl ?_
  refine TL.next ?_
  refine TC.seq ?_
  refine TC.region ?_
  refine TL.val (Yl.assign rfl) rfl ?_
  refine TL.next ?_
  exact TC.back1 () rfl rfl (fun _ h => h.sub (by repeat (first | exact List.Sublist.refl _ | exact List.sublist_append_right _ _ | refine List.Sublist.cons_cons _ ?_ | refine List.Sublist.append (List.Sublist.refl _) ?_ | refine List.Sublist.cons _ ?_ | refine List.Sublist.trans ?_ (List.sublist_append_right _ _))))
theorem exists_g (dg df m z d : List UInt8) (n : Nat) (g : World) (Fr : HL) : Gives Tryz.prog 24 #[.iface 56 (.agg ⟨saidL dg df n m z d⟩)] g Fr Unit (fun _ => .tuple #[.bool true, .nilIface]) (fun _ => Fr) := by
  refine Gives.enterD Tryz.func24 rfl Tryz.ntmps24 rfl ?_
  refine TC.seq ?_
  refine TC.region ?_
  refine TL.val (Yl.assign rfl) rfl ?_
  refine TL.val (Yl.assign rfl) rfl ?_
  refine TL.next ?_
  refine TC.seq ?_
  refine TC.seq ?_
  refine TC.region ?_
  refine TL.val (Yl.move rfl) rfl ?_
  refine TL.quiet (Cll.func (xs := [_]) (vs := [_]) Tryz.func28 rfl (by kernel_rfl) ⟨rfl, trivial⟩) rfl (Quiet.none (unwrap_q _)) ?_
  refine TL.val (Yl.noI1 (n := "Exists") Tryz.underlying85 rfl (by kernel_rfl) zr85) rfl ?_
  refine TL.val (Yl.move rfl) rfl ?_
  refine TL.val (Yl.extract rfl rfl) rfl ?_
  refine TL.val (Yl.extract rfl rfl) rfl ?_
  refine TL.val (Yl.assign rfl) rfl ?_
  refine TL.val (Yl.assign rfl) rfl ?_
  refine TL.next ?_
  refine TC.seq ?_
  refine TC.region ?_
  refine TL.val (Yl.move rfl) rfl ?_
  refine TL.next ?_
  refine TC.no rfl ?_
  refine TC.skip_next ?_
  refine TC.seq ?_
  refine TC.region ?_
  refine TL.val (Yl.move rfl) rfl ?_
  refine TL.call (Cll.inv (xs := []) (vs := []) Tryz.func122 rfl (by kernel_rfl) (m56Compressed _) rfl trivial) rfl (compressed_g dg df m z d n g _) fun b => ?_
  refine TL.val (Yl.move rfl) rfl ?_
  refine TL.val (Yl.extract rfl rfl) rfl ?_
  refine TL.val (Yl.extract rfl rfl) rfl ?_
  refine TL.val (Yl.assign rfl) rfl ?_
  refine TL.val (Yl.assign rfl) rfl ?_
  refine TL.next ?_
  refine TC.seq ?_
  refine TC.seq ?_
  refine TC.region ?_
  refine TL.val (Yl.move rfl) rfl ?_
  refine TL.val (Yl.neqNilN Tryz.underlying58 rfl rfl) rfl ?_
  refine TL.next ?_
  refine TC.no rfl ?_
  refine TC.skip_next ?_
  refine TC.seq ?_
  refine TC.region ?_
  refine TL.val (Yl.move rfl) rfl ?_
  refine TL.val (Yl.nilCheckI rfl) rfl ?_
  refine TL.dfr (Dfy.inv (xs := []) (vs := []) rfl trivial) ?_
  refine TL.next ?_
  refine TC.seq ?_
  refine TC.region ?_
  refine TL.val (Yl.assign rfl) rfl ?_
  refine TL.val (Yl.assign rfl) rfl ?_
  refine TL.next ?_
  exact TC.back2D () rfl rfl rfl rfl (fun _ h => h.sub (by repeat (first | exact List.Sublist.refl _ | exact List.sublist_append_right _ _ | refine List.Sublist.cons_cons _ ?_ | refine List.Sublist.append (List.Sublist.refl _) ?_ | refine List.Sublist.cons _ ?_ | refine List.Sublist.trans ?_ (List.sublist_append_right _ _)))) (closeD b _)
end Go.Proofs.YtlhncphipfkkjaaGreatDoor
