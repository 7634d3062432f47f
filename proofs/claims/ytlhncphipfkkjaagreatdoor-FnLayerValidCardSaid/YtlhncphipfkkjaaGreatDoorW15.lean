/- The row lifted, out of the contract of its function, with a witness; conditions: the row's own. -/
import Derived.Test.YtlhncphipfkkjaaGreatDoorW14
import Derived.LaidLaws
import Derived.Test.YtlhncphipfkkjaaGreatDoorRows
import Derived.ProofKit
import Derived.LaidMore
import Derived.OpenShut
import Derived.ChangeMaps5
import Derived.ChangeSlices
import Derived.Carry
import Derived.Handed
import Derived.Stop.Joined
/- One type alone is named '*errors.errorString': shown by one look at the list of types. -/
namespace Go.Proofs.YtlhncphipfkkjaaGreatDoor
open Go
def esB : String := "errors.errorString"
def peB : String := "*errors.errorString"
def chkT1 (i : TypeInfo) (k : Nat) : Bool :=
  match i.desc with
  | .named n _ => n != peB && (n != esB || k == 96)
  | .pointer e => e != 96 || k == 94
  | .bool | .int _ | .float _ | .string => i.str != esB && i.str != peB
  | _ => true
def chkTN : List TypeInfo → Nat → Bool
  | [], _ => true
  | i :: r, k => chkT1 i k && chkTN r (k + 1)
theorem chk_all : chkTN Tryz.prog.types.toList 0 = true := by kernel_rfl
theorem chk_get : ∀ {l : List TypeInfo} {k j : Nat} {i : TypeInfo}, chkTN l k = true → l[j]? = some i → chkT1 i (k + j) = true
  | [], _, _, _, _, h => by simp at h
  | x :: r, k, 0, i, h, hj => by
    simp only [List.getElem?_cons_zero, Option.some.injEq] at hj
    subst hj
    simp only [chkTN, Bool.and_eq_true] at h
    exact h.1
  | x :: r, k, j + 1, i, h, hj => by
    simp only [List.getElem?_cons_succ] at hj
    simp only [chkTN, Bool.and_eq_true] at h
    have := chk_get h.2 hj
    rwa [show k + (j + 1) = k + 1 + j by omega]
theorem chk_at {t : Nat} {i : TypeInfo} (ht : t < Tryz.prog.types.size) (hi : Tryz.prog.info? t = some i) : chkT1 i t = true := by
  have e2 : Tryz.prog.info? t = Tryz.prog.types[t]? := by
    unfold Tables.info?
    rw [if_pos ht]
  rw [e2, ← Array.getElem?_toList] at hi
  have := chk_get chk_all hi
  rwa [Nat.zero_add] at this

theorem star_ne (x : String) : "*" ++ x ≠ esB := fun h => by
  have := congrArg (fun s : String => s.toList.head?) h
  simp [String.toList_append, esB] at this

set_option maxRecDepth 100000 in
theorem elem96 {e : TypeId} (h : Tryz.prog.typeName? 2 e = some esB) : e = 96 ∧ ∃ j n t, Tryz.prog.info? e = some j ∧ j.desc = .named n t := by
  unfold Program.typeName? at h
  cases hi : Tryz.prog.info? e with
  | none => simp [hi] at h
  | some i =>
    simp only [hi] at h
    by_cases he : e < Tryz.prog.types.size
    · have hc := chk_at he hi
      unfold chkT1 at hc
      cases hd : i.desc <;> simp only [hd] at h hc <;> try cases h
      case pointer e2 =>
        simp only [Option.map_eq_some_iff] at h
        obtain ⟨n', _, hs⟩ := h
        exact absurd hs (star_ne _)
      case named n t =>
        split at h
        · simp only [Option.some.injEq] at h
          subst h
          simp only [bne_self_eq_false, Bool.false_or, Bool.and_eq_true] at hc
          exact ⟨by simpa using hc.2, i, _, _, rfl, hd⟩
        · cases h
      all_goals
        split at h
        · cases h
        · simp only [Option.some.injEq] at h
          rw [h] at hc
          simp at hc
    · have hb := Tables.info?_beyond he hi
      cases hd : i.desc <;> simp only [hd, TypeDesc.tableOnly] at h hb <;> try cases hb
      all_goals try cases h
      simp only [Option.map_eq_some_iff] at h
      obtain ⟨n', _, hs⟩ := h
      exact absurd hs (star_ne _)

set_option maxRecDepth 100000 in
theorem row94' (u : TypeId) (h : Tryz.prog.typeName? 3 u = some peB) : u = 94 := by
  have hp : peB = "*" ++ esB := by decide
  unfold Program.typeName? at h
  cases hi : Tryz.prog.info? u with
  | none => simp [hi] at h
  | some i =>
    simp only [hi] at h
    by_cases hu : u < Tryz.prog.types.size
    · have hc := chk_at hu hi
      unfold chkT1 at hc
      cases hd : i.desc <;> simp only [hd] at h hc <;> try cases h
      case pointer e2 =>
        simp only [Option.map_eq_some_iff] at h
        obtain ⟨n', hn, hs⟩ := h
        rw [hp] at hs
        obtain rfl := star_append_inj hs
        obtain ⟨rfl, _⟩ := elem96 hn
        simpa using hc
      case named n t =>
        split at h
        · simp only [Option.some.injEq] at h
          subst h
          simp at hc
        · cases h
      all_goals
        split at h
        · cases h
        · simp only [Option.some.injEq] at h
          rw [h] at hc
          simp at hc
    · have hb := Tables.info?_beyond hu hi
      cases hd : i.desc <;> simp only [hd, TypeDesc.tableOnly] at h hb <;> try cases hb
      all_goals try cases h
      simp only [Option.map_eq_some_iff] at h
      obtain ⟨n', hn, hs⟩ := h
      rw [hp] at hs
      obtain rfl := star_append_inj hs
      obtain ⟨_, j, n, t, hj, hjd⟩ := elem96 hn
      exact absurd hjd (Tables.pointee_beyond hu hi hd j hj n t)
theorem row94 (u : TypeId) (h : Tryz.prog.typeName? 3 u = some "*errors.errorString") : u = 94 := row94' u h
end Go.Proofs.YtlhncphipfkkjaaGreatDoor

/- The row: for every input the law returns true, and each argument reads behind the call as it read before; conditions: the listed package variables read as the row lays them. -/
namespace Go.Proofs.YtlhncphipfkkjaaGreatDoor
open Go Go.ChangeShapes Go.WideShapes Go.RowKit

/-! ## What the laid variables give -/
theorem own_knob : ownKnob Tryz.prog.godebug = none := by kernel_rfl
theorem gEof : Tryz.prog.globalNamed "io.EOF" = some 0 := by kernel_rfl
theorem tEof : (Tryz.prog.globals[0]?).map (·.type) = some 58 := by kernel_rfl
theorem cells96 : Tryz.prog.cellsOf 96 = 1 := by kernel_rfl
theorem cells9 : Tryz.prog.cellsOf 9 = 1 := by kernel_rfl
theorem cells38 : Tryz.prog.cellsOf 38 = 1 := by kernel_rfl
theorem laid_get {P : Program} {w : World} {n : String} {x : DataW Unit} : ∀ {l : List (String × DataW Unit)} {ps : List MemPlace}, DataW.LaidVars P w l ps → (n, x) ∈ l →
    ∃ g t cs fuel p, P.globalNamed n = some g ∧ (P.globals[g]?).map (·.type) = some t ∧ w.var? P n = some cs ∧ DataW.trod (fun _ => ()) P w 0 (fun _ => true) false fuel t cs.toList = some (x, p) ∧ ∀ y ∈ MemPlace.row ⟨g, 0, none⟩ cs.size, y ∈ ps
  | [], _, _, h => by cases h
  | (m, d) :: r, ps, h, hm => by
    obtain ⟨g, t, cs, fuel, p, q, h1, h2, h3, h4, h5, rfl⟩ := h
    rcases List.mem_cons.1 hm with e | hm
    · cases e
      exact ⟨g, t, cs, fuel, p, h1, h2, h3, h4, fun y hy => List.mem_append_left _ (List.mem_append_left _ hy)⟩
    · obtain ⟨g', t', cs', fuel', p', k1, k2, k3, k4, k5⟩ := laid_get h5 hm
      exact ⟨g', t', cs', fuel', p', k1, k2, k3, k4, fun y hy => List.mem_append_right _ (k5 y hy)⟩

set_option maxRecDepth 100000 in
theorem eof_of_laid {W : World} (h : laidMetH Tryz.prog Rows.fnLayerValidRow.laid W) : ∃ a t, W.heap[0]? = some (.cells ⟨[eofV a]⟩ t (0, 0)) := by
  rw [MakeChecks.laidMetH_plain _ _ _ (by kernel_rfl)] at h
  obtain ⟨ps, hl, _, hrows⟩ := h
  obtain ⟨g, t, cs, fuel, p, h1, h2, h3, h4, h5⟩ := laid_get (n := "io.EOF") (x := Rows.laid_io_EOF) hl (by simp [Rows.fnLayerValidRow])
  obtain rfl := Option.some.inj (gEof.symm.trans h1)
  obtain rfl := Option.some.inj (tEof.symm.trans h2)
  obtain ⟨l⟩ := cs
  have ok0 : ∀ u v, l = [.iface u v] → Value.okWide Tryz.prog W .any 0 u v := fun u v e => by
    subst e
    exact (hrows 0 0 (h5 _ (by simp [MemPlace.row]))).2 u v (by simpa using World.var?_cell h1 h3 0)
  obtain ⟨a, s, hl2, _⟩ := errorString_of_trod Tryz.underlying58 row94 Tryz.underlying94 Tryz.underlying96 rfl rfl Tryz.underlying9 cells96 cells9 h4 ok0
  have hl3 : l = [.iface 94 (.pointer (some a))] := hl2
  subst hl3
  obtain ⟨c, t', hb⟩ := (hrows 0 0 (h5 _ (by simp [MemPlace.row]))).1
  refine ⟨a, t', ?_⟩
  have : W.var? Tryz.prog "io.EOF" = some c := by
    unfold World.var?
    rw [h1]
    simp [hb]
  rw [h3] at this
  obtain rfl := Option.some.inj this
  exact hb

/-! ## From what the walk keeps to the row's 'Post' -/
theorem Keep.heap {w w' : World} (hk : Keep w w') {i : Nat} (hi : i < w.heap.size) : w'.heap[i]? = w.heap[i]? := by
  have h0 : w.heap[i]? = some w.heap[i] := Array.getElem?_eq_getElem hi
  rw [h0]
  exact (hk w [(i, w.heap[i])] ⟨by simp, fun p hp => by rw [List.mem_singleton.1 hp]; exact h0, rfl, rfl⟩).mem (i, w.heap[i]) List.mem_cons_self
theorem Keep.os {w w' : World} (hk : Keep w w') : w'.os = w.os := (hk w [] ⟨by simp, fun p hp => (by cases hp), rfl, rfl⟩).os
theorem Keep.out {w w' : World} (hk : Keep w w') : w'.output = w.output := (hk w [] ⟨by simp, fun p hp => (by cases hp), rfl, rfl⟩).out
theorem Keep.kept {w w' : World} (hk : Keep w w') (may : MemPlace → Prop) : w.keptBut w' may :=
  ⟨hk.os, hk.out, fun i hi => by rw [hk.heap hi]; exact (World.keptBut_refl w may).2.2 i hi⟩
theorem Keep.cell {w w' : World} (hk : Keep w w') {a : Addr} (ha : a.block < w.heap.size) : w'.cell? a = w.cell? a := by
  unfold World.cell?; rw [hk.heap ha]
theorem Keep.frozen {w w' : World} (hk : Keep w w') {a : Addr} (ha : a.block < w.heap.size) : w'.frozen? a = w.frozen? a := by
  unfold World.frozen?; rw [hk.heap ha]

section
variable {H : Type} {enc : TypeId × Value → H} {P : Program}
theorem post_of_keep {f : Func} {s : ChangeSpec} {apart fresh handsOn again : Bool} {W W' : World} {args : Array Value} {v : Value} {ds gs : List (DataW H)} {before pa pv : List MemPlace}
    (hW : DataW.Whole enc P f.params.toList s.vars apart W args.toList ds gs before)
    (hres : ∀ (b : Nat) (sp : Nat → Bool) (hd : Bool), DataW.TrodAll enc P W' b sp hd f.resultTypes.toList (v.resultList f.resultTypes.size) (s.fn H (ds ++ gs)).results [])
    (hargs : ∀ sp : Nat → Bool, (∀ p ∈ before, sp p.block = true) → DataW.TrodAll enc P W' 0 sp true f.params.toList args.toList (s.fn H (ds ++ gs)).args pa)
    (hvars : ∀ sp : Nat → Bool, (∀ p ∈ before, sp p.block = true) → DataW.TrodVars enc P W' sp s.vars (s.fn H (ds ++ gs)).vars pv)
    (hps : before = pa ++ pv) (hk : Keep W W')
    (hok : ∀ (j : Nat) (t : TypeId) (r : Value), f.resultTypes[j]? = some t → (v.resultList f.resultTypes.size)[j]? = some r → Value.okWide P W' .any 0 t r) :
    s.post enc P f apart fresh handsOn again W args v W' := by
  have hlt : ∀ p ∈ before, p.block < W.heap.size := fun p hp => hW.lt p hp
  have hold : ∀ p ∈ before, (fun b => decide (b < W.heap.size)) p.block = true := fun p hp => by simpa using hlt p hp
  refine ⟨ds, gs, before, [], pa, pv, hW, hres _ _ _, hargs _ hold, hvars _ hold, World.keptBut_mono (fun p hp => ⟨hp, ?_⟩) (hk.kept (· ∈ before)), fun _ => ?_⟩
  · rw [hps, List.mem_append] at hp
    exact Or.inr hp
  · obtain ⟨_, _, _, _, _, hz, hn⟩ := hW
    refine ⟨hok, _, _, ([] ++ pa) ++ pv, ⟨[] ++ pa, pv, trodAll_append (hargs _ (fun _ _ => rfl)) (hres _ _ _), hvars _ (fun _ _ => rfl), rfl, ?_, ?_⟩, ?_⟩
    · intro b off hp
      have hin : MemPlace.cell b off ∈ before := by rw [hps]; simpa using hp
      rw [hk.frozen (hlt _ hin)]
      exact hz b off hin
    · intro ha
      have := hn ha
      rw [hps] at this
      simpa using this
    · intro p hp _
      rw [hps]
      simpa using hp
end

/-- the kit's own lifting, with the shape of the world handed on -/
theorem returnsInHanded_shaped {a : Assume} {C : Checked} {os : Os} {H : Type} {enc : TypeId × Value → H} {f : FuncId} {fn : Func} {s : ChangeSpec} {conds : List PathCond} {apart fresh handsOn again : Bool} {X : World → Array Value → Prop}
    (hX : ∀ (w w' : World) (args : Array Value), w.heap = w'.heap → X w args → X w' args)
    (own : ownKnob C.prog.godebug = none) (started : os.Started) (noInit : C.prog.inits.idxOf? f = none) (hfn : C.prog.funcs[f]? = some fn)
    (witness : ∃ (w : World) (tape : Tape) (i : Input), w.os = os ∧ (w.forCall tape i).Shaped C.prog ∧ i.vars = [] ∧ Input.okWide C.prog (w.forCall tape i) .any w.heap.size f i ∧
      ((s.pre enc C.prog fn conds apart (w.forCall tape i).memory i.args ∧ X (w.forCall tape i).memory i.args) ∧ sizedMet enc C.prog fn (OpenSpec.ofChange s) apart (w.forCall tape i).memory i.args) ∧ a.holds C.prog (lone (Frame.enter C.prog f i.args .normal) [] (w.forCall tape i)))
    (contract : ∀ (W : World) (base : Nat) (args : Array Value) (ds gs : List (DataW H)) (before : List MemPlace), W.ShapedOpen C.prog →
      (∀ (j : Nat) t v, fn.params[j]? = some t → args[j]? = some v → Value.okWide C.prog W .any base t v) →
      DataW.Whole enc C.prog fn.params.toList s.vars apart W args.toList ds gs before → X W args →
      Calls C.prog f args W fun e W' => ∃ v, e = .returned v ∧ s.post enc C.prog fn apart fresh handsOn again W args v W') :
    ReturnsInHanded a C os f .any (fun w args => (s.pre enc C.prog fn conds apart w args ∧ X w args) ∧ sizedMet enc C.prog fn (OpenSpec.ofChange s) apart w args) (s.post enc C.prog fn apart fresh handsOn again) := by
  refine returnsInHanded_of_calls own started noInit witness ?_
  intro w tape i _ hsh _ hok hpre _
  obtain ⟨_, _, _, fn', hfn', _, _, _, _, hval⟩ := hok
  have e : fn' = fn := Option.some.inj (hfn'.symm.trans hfn)
  subst e
  obtain ⟨⟨⟨ds, gs, before, hw, hc⟩, hx⟩, hz⟩ := hpre
  have hw' := DataW.Whole.of_heap (w' := w.forCall tape i) (by rfl) hw
  refine (contract (w.forCall tape i) w.heap.size i.args ds gs before hsh hval hw' (hX _ _ _ (by rfl) hx)).mono fun e W' ⟨v, he, hp⟩ => ?_
  subst he
  exact ChangeSpec.post_blind hp

/-! ## The call -/
theorem bytes_eq (s : ByteArray) : (⟨s.data.toList.toArray⟩ : ByteArray) = s := by cases s; simp

theorem call_nil (ea : Addr) (oa : Option Addr) (me : List UInt8) (hme : me.length ≤ 9223372036854775807) (w k : Nat) (hw : w < 256) (hk : k < 256) : Quiet Tryz.prog 3 #[.slice oa 0 0, vS me, .int .u8 (w : Int), .int .u8 (k : Int)] [eofB ea] (.bool true) :=
  Quiet.of_gives fun g Fr => fn0_g ea oa me hme w k hw hk [] rfl (tarOf (by simp) (by simp) (by simp)) g Fr
theorem call_some {tE : TypeId} {fE : Nat × Nat} (ea : Addr) (ws : List UInt16) (n : Nat) (hn : ws.length = n) (hn2 : n ≤ 9223372036854775807) (b off cap : Nat) (cs : List Value) (hcap : n ≤ cap) (hcs : (cs.drop off).take n = ws.map u16V) (me : List UInt8) (hme : me.length ≤ 9223372036854775807) (w k : Nat) (hw : w < 256) (hk : k < 256) :
    Quiet Tryz.prog 3 #[sl b off n cap, vS me, .int .u8 (w : Int), .int .u8 (k : Int)] [(b, .cells ⟨cs⟩ tE fE), eofB ea] (.bool true) :=
  Quiet.of_gives fun g Fr => fn_g ea ws n hn hn2 b off cap cs hcap hcs me hme w k hw hk _ rfl (tarOf_ent ws n) g Fr

theorem shape0 : ((begin Tryz.prog (fun _ _ => 0) default).world.heap[0]?).bind Obj.row? = some (#[.nilIface], 58) := by kernel_rfl
theorem glob0 : decide (0 < Tryz.prog.globals.size) = true := by kernel_rfl

theorem eof_block {W : World} (hs : W.ShapedOpen Tryz.prog) (hL : laidMetH Tryz.prog Rows.fnLayerValidRow.laid W) : ∃ ea, W.heap[0]? = some (eofB ea).2 := by
  obtain ⟨a, t, h⟩ := eof_of_laid hL
  obtain ⟨cs, h1, _⟩ := hs.1 0 _ _ (of_decide_eq_true glob0) shape0
  rw [h] at h1
  cases h1
  exact ⟨a, h⟩
end Go.Proofs.YtlhncphipfkkjaaGreatDoor

/- A world that meets the row's conditions: the one that the door's own run leaves. -/
namespace Go.Proofs.YtlhncphipfkkjaaGreatDoor
open Go Go.ChangeShapes Go.WideShapes Go.RowKit
def wArgs : Array Value := #[.slice none 0 0, .string ⟨#[]⟩, .int .u8 0, .int .u8 0]
noncomputable def wWorld (os : Os) : World := (World.doorLaid Tryz.prog 400 os).forCall (fun _ _ => 0) ⟨#[], wArgs, []⟩
theorem door_run (os : Os) : (DataW.laidRun Tryz.prog (wWorld os).memory 8 (Rows.fnLayerValidRow.laid.map (·.1))).map (·.1) = some Rows.fnLayerValidRow.laid := by kernel_rfl
theorem door_rows (os : Os) : (DataW.laidRun Tryz.prog (wWorld os).memory 8 (Rows.fnLayerValidRow.laid.map (·.1))).map (fun x => decide x.2.Nodup && laidRowsB Tryz.prog (wWorld os).memory x.2) = some true := by kernel_rfl
theorem door_met (os : Os) : laidMetH Tryz.prog Rows.fnLayerValidRow.laid (wWorld os).memory :=
  laidMetH_of_parts3 (fuel := 8) (laidMet_of_run' 8 (door_run os) (door_rows os)) (by kernel_rfl) (by kernel_rfl)
end Go.Proofs.YtlhncphipfkkjaaGreatDoor

/- The witness of the row: an input that fits, in the world that the door's own run leaves. -/
namespace Go.Proofs.YtlhncphipfkkjaaGreatDoor
open Go Go.ChangeShapes Go.WideShapes Go.RowKit
theorem w_refs (os : Os) : (wWorld os).variablesRefB Tryz.prog = true := by kernel_rfl
theorem w_rest (os : Os) : ((wWorld os).heap.toList.drop Tryz.prog.globals.size).take ((begin Tryz.prog (fun _ _ => 0) default).world.heap.size - Tryz.prog.globals.size) = (begin Tryz.prog (fun _ _ => 0) default).world.heap.toList.drop Tryz.prog.globals.size := by kernel_rfl
theorem w_shaped (os : Os) : (wWorld os).Shaped Tryz.prog := World.shaped_of_RefB (w_refs os) (w_rest os)
theorem w_okay (os : Os) : Input.okWideB Tryz.prog (wWorld os) 3 ⟨#[], wArgs, []⟩ = true := by kernel_rfl
theorem w_pre {H : Type} (enc : TypeId × Value → H) (os : Os) : Rows.fnLayerValidSpec.preB enc Tryz.prog Tryz.f3 [] false (wWorld os).memory wArgs 8 = true := by kernel_rfl
theorem w_sized {H : Type} (enc : TypeId × Value → H) (os : Os) : Rows.fnLayerValidSpec.sizedB enc Tryz.prog Tryz.f3 false (wWorld os).memory wArgs 8 = true := by kernel_rfl
end Go.Proofs.YtlhncphipfkkjaaGreatDoor

/- The row 'FnLayerValid' proved: for every input the law returns true; each argument reads behind the call as it read before; conditions: the listed package variables read as the row lays them. -/
namespace Go.Proofs.YtlhncphipfkkjaaGreatDoor
open Go Go.ChangeShapes Go.WideShapes Go.RowKit

theorem nat_of_u8 {n : Int} (h : (Lit.int .u8 n).wf = true) : ∃ m : Nat, n = (m : Int) ∧ m < 256 := by
  have h1 : 0 ≤ n ∧ n < 256 := by
    simp only [Lit.wf, Bool.and_eq_true, decide_eq_true_eq] at h
    have h1 : IntKind.u8.min = 0 := rfl
    have h2 : IntKind.u8.max = 255 := rfl
    omega
  exact ⟨n.toNat, by omega, by omega⟩
theorem nat_of_u16 {n : Int} (h : (Lit.int .u16 n).wf = true) : 0 ≤ n ∧ n < 65536 := by
  simp only [Lit.wf, Bool.and_eq_true, decide_eq_true_eq] at h
  have h1 : IntKind.u16.min = 0 := rfl
  have h2 : IntKind.u16.max = 65535 := rfl
  omega
theorem cell_block {W : World} {a : Addr} {v : Value} (h : W.cell? a = some v) : ∃ c te fr, W.heap[a.block]? = some (.cells c te fr) ∧ a.spot = none ∧ c[a.off]? = some v := by
  unfold World.cell? at h
  split at h
  · rename_i c te fr hb
    cases hs : a.spot with
    | none => simp [hs] at h; exact ⟨c, te, fr, hb, rfl, h⟩
    | some x => simp [hs] at h
  · cases h
theorem own_two {W : World} {b : Nat} {o : Obj} {ea : Addr} (hb : W.heap[b]? = some o) (he : W.heap[0]? = some (eofB ea).2) (hne : b ≠ 0) : Own W W [(b, o), eofB ea] := by
  refine ⟨?_, fun p hp => ?_, rfl, rfl⟩
  · simp [eofB, hne]
  · rcases List.mem_cons.1 hp with rfl | hp
    · exact hb
    · rw [List.mem_singleton.1 hp]; exact he
theorem own_one {W : World} {ea : Addr} (he : W.heap[0]? = some (eofB ea).2) : Own W W [eofB ea] :=
  ⟨by simp, fun p hp => by rw [List.mem_singleton.1 hp]; exact he, rfl, rfl⟩

set_option maxRecDepth 100000 in
theorem lifted (os : Os) (started : os.Started) (H : Type) (enc : TypeId × Value → H) :
    ReturnsInHanded {} Tryz.checked os 3 .any (fun w args => (Rows.fnLayerValidSpec.pre enc Tryz.prog Tryz.f3 [] false w args ∧ laidMetH Tryz.prog Rows.fnLayerValidRow.laid w) ∧ sizedMet enc Tryz.prog Tryz.f3 (OpenSpec.ofChange Rows.fnLayerValidSpec) false w args)
      (Rows.fnLayerValidSpec.post enc Tryz.prog Tryz.f3 false true false false) := by
  refine returnsInHanded_shaped (C := Tryz.checked) (X := fun w _ => laidMetH Tryz.prog Rows.fnLayerValidRow.laid w) (fun _ _ _ hh h => h.of_heap hh) own_knob started (by kernel_rfl) Tryz.func3
    (ChangeSpec.witness_shaped (enc := enc) (C := Tryz.checked) (os := os) (X := fun w _ => laidMetH Tryz.prog Rows.fnLayerValidRow.laid w) false (World.doorLaid Tryz.prog 400 os) wArgs 8 rfl (w_shaped os) (w_okay os) (w_pre enc os) (w_sized enc os) (door_met os)) ?_
  intro W base args ds gs before hsh hval0 hW hL
  have hval : ∀ (j : Nat) t v, Tryz.f3.params[j]? = some t → args[j]? = some v → Value.okWide Tryz.prog W .any base t v := hval0
  have hW' := hW
  obtain ⟨p, q, hA0, hV, rfl, hfz, hnd⟩ := hW
  have hA : DataW.TrodAll enc Tryz.prog W 0 (fun _ => true) true Tryz.f3.params.toList args.toList ds p := hA0
  rw [Tryz.params3] at hA hval
  obtain ⟨v0, v1, v2, v3, d0, d1, d2, d3, p0, p1, p2, p3, rfl, rfl, rfl, h0, h1, h2, h3⟩ := trodAll_four hA
  obtain ⟨rfl, rfl⟩ := trodVars_none hV
  obtain ⟨oa, n, cap, rfl⟩ := okWide_slice Tryz.underlying22 (hval 0 22 v0 rfl rfl)
  obtain ⟨s, rfl, rfl, rfl, hs⟩ := ChangeMaps.open_string Tryz.underlying9 (hval 1 9 v1 rfl rfl) h1
  obtain ⟨w, rfl, rfl, rfl, hw⟩ := open_int Tryz.underlying5 (hval 2 5 v2 rfl rfl) h2
  obtain ⟨k, rfl, rfl, rfl, hk⟩ := open_int Tryz.underlying5 (hval 3 5 v3 rfl rfl) h3
  have hw0 := hw
  have hk0 := hk
  obtain ⟨w, rfl, hw7⟩ := nat_of_u8 hw
  obtain ⟨k, rfl, hk7⟩ := nat_of_u8 hk
  obtain ⟨l, rfl⟩ : ∃ l : List UInt8, s = ⟨l.toArray⟩ := ⟨s.data.toList, (bytes_eq s).symm⟩
  have hll : l.length ≤ 9223372036854775807 := by
    have h1 : (⟨l.toArray⟩ : ByteArray).size = l.length := by simp [ByteArray.size]
    rw [h1] at hs; exact hs
  obtain ⟨ea, hea⟩ := eof_block hsh hL
  clear hA0 hval0 hA hval
  -- the end, from what is kept
  have fin : ∀ W', Keep W W' → (∀ sp : Nat → Bool, (∀ x ∈ p0 ++ [] ++ [] ++ [] ++ [], sp x.block = true) → DataW.Trod enc Tryz.prog W' 0 sp true 22 (.slice oa n cap) d0 p0) →
      Rows.fnLayerValidSpec.post enc Tryz.prog Tryz.f3 false true false false W #[.slice oa n cap, .string ⟨l.toArray⟩, .int .u8 (w : Int), .int .u8 (k : Int)] (.bool true) W' := by
    intro W' hkp hd
    refine post_of_keep (pa := p0 ++ ([] ++ ([] ++ []))) (pv := []) hW' (fun _ _ _ => trodAll_mk1 (shut_bool Tryz.underlying4 _)) (fun sp hsp => ?_) (fun _ _ => rfl) (by simp) hkp (ok_one (by kernel_rfl) rfl (okWide_bool_mk Tryz.underlying4 _))
    rw [Tryz.params3]
    exact trodAll_mk4 (hd sp hsp) (ChangeMaps.shut_string Tryz.underlying9 hs) (shut_int Tryz.underlying5 hw0) (shut_int Tryz.underlying5 hk0)
  obtain ⟨fuel, hf⟩ := h0
  rcases open_ints Tryz.underlying22 Tryz.underlying38 cells38 hf with ⟨hcs, hx⟩ | ⟨a, len, cap', zs, hcs, hb, hl, hm, hz, hx, hcell, hwz⟩
  · simp only [Value.cells, List.cons.injEq, Value.slice.injEq, and_true] at hcs
    obtain ⟨rfl, rfl, rfl⟩ := hcs
    obtain ⟨rfl, rfl⟩ := Prod.mk.inj hx
    refine (call_nil ea none l hll w k hw7 hk7 W W (own_one hea)).mono fun e W' ⟨he, hkp⟩ => ⟨_, he, fin W' hkp fun sp _ => ?_⟩
    exact shut_slice_nil Tryz.underlying22
  · simp only [Value.cells, List.cons.injEq, Value.slice.injEq, and_true] at hcs
    obtain ⟨rfl, rfl, rfl⟩ := hcs
    obtain ⟨rfl, rfl⟩ := Prod.mk.inj hx
    simp only [if_true] at hz
    have back : ∀ W', Keep W W' → (0 < cap → a.block < W.heap.size) → ∀ sp : Nat → Bool, (0 < cap → sp a.block = true) → DataW.Trod enc Tryz.prog W' 0 sp true 22 (.slice (some a) n cap) (.slice (lits .u16 (zs.take n)) (lits .u16 (zs.drop n))) (MemPlace.row a zs.length) := by
      intro W' hkp hlt sp hsp
      refine ⟨2, shut_ints 0 Tryz.underlying22 Tryz.underlying38 cells38 (Nat.zero_le _) hl hm ?_ (fun i hi => ?_) hwz⟩
      · by_cases hc : 0 < cap
        · rw [hsp hc, if_pos rfl]; exact hz
        · split <;> omega
      · rw [hkp.cell (by rw [block_add]; exact hlt (by omega))]
        exact hcell i hi
    by_cases hc : 0 < cap
    · obtain ⟨c, te, fr, hblk, hspot, _⟩ := cell_block (hcell 0 (by omega))
      obtain ⟨b, off, spot⟩ := a
      rw [block_add] at hblk
      have hspot' : spot = none := by
        have e : (⟨b, off, spot⟩ : Addr).add 0 = ⟨b, off, spot⟩ := by simp [Addr.add]
        rw [e] at hspot; exact hspot
      subst hspot'
      have hget : ∀ i, i < cap → c[off + i]? = some (.int .u16 (zs.getD i 0)) := fun i hi => by
        obtain ⟨c', te', fr', hb', _, hci⟩ := cell_block (hcell i (by omega))
        rw [block_add] at hb'
        rw [hblk] at hb'
        cases hb'
        rw [show (⟨b, off, none⟩ : Addr).add i = ⟨b, off + i, none⟩ from Addr.add_lit _ _ _] at hci
        exact hci
      have hb0 : b ≠ 0 := fun e => by
        have hb1 : W.heap[b]? = some (.cells c te fr) := hblk
        rw [e, hea] at hb1
        cases hb1
        have := hget 0 hc
        rw [Nat.add_zero] at this
        cases off with
        | zero => simp [eofV] at this
        | succ m => simp at this
      have hlt : b < W.heap.size := (Array.getElem?_eq_some_iff.1 hblk).1
      obtain ⟨cl⟩ := c
      let ws : List UInt16 := (List.range n).map fun i => UInt16.ofNat (zs.getD i 0).toNat
      have hws : ws.length = n := by simp [ws]
      have hcs : (cl.drop off).take n = ws.map u16V := by
        apply List.ext_getElem?
        intro i
        by_cases hi : i < n
        · have h1 := hget i (by omega)
          simp only [List.getElem?_toArray] at h1
          have hz1 : zs.getD i 0 ∈ zs := by
            rw [List.getD_eq_getElem?_getD, List.getElem?_eq_getElem (by omega)]; exact List.getElem_mem _
          have h2 := nat_of_u16 (hwz _ hz1)
          simp only [List.getElem?_take, List.getElem?_drop, if_pos hi, h1, ws, List.getElem?_map, List.getElem?_range hi, Option.map_some, u16V]
          have h3 : ((UInt16.ofNat (zs.getD i 0).toNat).toNat : Int) = zs.getD i 0 := by
            rw [UInt16.toNat_ofNat']; omega
          rw [h3]
        · rw [List.getElem?_eq_none (by rw [List.length_take]; omega), List.getElem?_eq_none (by rw [List.length_map, hws]; omega)]
      have hmax : maxLen = 9223372036854775807 := rfl
      refine (call_some (tE := te) (fE := fr) ea ws n hws (by omega) b off cap cl hl hcs l hll w k hw7 hk7 W W (own_two hblk hea hb0)).mono fun e W' ⟨he, hkp⟩ => ⟨_, he, fin W' hkp fun sp hsp => back W' hkp (fun _ => hlt) sp fun _ => ?_⟩
      refine hsp (.cell b off) ?_
      simp only [List.append_nil]
      exact MemPlace.mem_row.2 ⟨0, by omega, by simp⟩
    · obtain rfl : cap = 0 := by omega
      obtain rfl : n = 0 := by omega
      refine (call_nil ea (some a) l hll w k hw7 hk7 W W (own_one hea)).mono fun e W' ⟨he, hkp⟩ => ⟨_, he, fin W' hkp fun sp _ => back W' hkp (fun h => by omega) sp (fun h => by omega)⟩

end Go.Proofs.YtlhncphipfkkjaaGreatDoor
