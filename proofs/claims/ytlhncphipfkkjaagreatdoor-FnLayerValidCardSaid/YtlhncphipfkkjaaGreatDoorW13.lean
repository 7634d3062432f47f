/- The contracts of validate.Layer and of LayerValid, where all is right and where one thing is not; conditions: the layer's bytes are such a tar, compressed. -/
import Derived.Test.YtlhncphipfkkjaaGreatDoorW12
import Derived.Laws.StructEq
/- Laws: two hashes compared; two errors' worth of fields. -/
namespace Go.Proofs.YtlhncphipfkkjaaGreatDoor
open Go
variable {P : Program} {F : FL} {H : HL} {g : World} {d : Option Nat} {ty : TypeId} {pos : String} {aft : Array Edge} {gd : Option (Nat × Bool)}

theorem Yl.neqHash {t u t' : TypeId} {x y : Operand} {a b : List UInt8} {r : Bool} (ht : P.underlying t = some (.struct (P.fieldsOf t))) (hfs : (P.fieldsOf t).toList.map (fun f => (decide (f.name = "_"), f.type, f.offset)) = [(false, u, 0), (false, u, 1)])
    (hp : P.stoodInHeld t = false) (hm : P.eqGuardType P.depth t = false) (hu : P.underlying u = some .string) (hx : ev F x = some (.agg ⟨hashV a⟩)) (hy : ev F y = some (.agg ⟨hashV b⟩)) (hr : decide (a ≠ b) = r) :
    Yl P F H ⟨d, .binOp .neq t x y t', ty, pos, aft, gd⟩ (.bool r) := fun ac g w hf _ => by
  subst hr
  obtain ⟨f0, f1, hl, h0, h1⟩ : ∃ f0 f1, (P.fieldsOf t).toList = [f0, f1] ∧ (decide (f0.name = "_"), f0.type, f0.offset) = (false, u, 0) ∧ (decide (f1.name = "_"), f1.type, f1.offset) = (false, u, 1) := by
    match h : (P.fieldsOf t).toList with
    | [] => rw [h] at hfs; simp at hfs
    | [f0] => rw [h] at hfs; simp at hfs
    | [f0, f1] => rw [h] at hfs; simp only [List.map_cons, List.map_nil, List.cons.injEq, and_true] at hfs; exact ⟨f0, f1, rfl, hfs.1, hfs.2⟩
    | f0 :: f1 :: f2 :: l => rw [h] at hfs; simp at hfs
  simp only [Prod.mk.injEq, decide_eq_false_iff_not] at h0 h1
  obtain ⟨n0, t0, o0⟩ := h0
  obtain ⟨n1, t1, o1⟩ := h1
  have hpart : ∀ (c : List UInt8) (i : Nat) (v : Value), (hashV c)[i]? = some v → ∀ w, (part u ⟨hashV c⟩ i).run P w = .ok v w := fun c i v hv w => by
    simp [part, run_isAgg' hu, aggD, hv]
  have e0 := run_equalIn_string w 9998 u ⟨algB.toArray⟩ ⟨algB.toArray⟩ hu
  have e1 := run_equalIn_string w 9998 u ⟨a.toArray⟩ ⟨b.toArray⟩ hu
  have q : (Op.equalIn (9999 + 1) t (.agg ⟨hashV a⟩) (.agg ⟨hashV b⟩)).run P w = .ok (decide (a = b)) w := by
    rw [run_equalIn_agg w 9999 t _ _ ht hp, hl]
    simp only [Op.eqFields, n0, n1, t0, t1, o0, o1, ne_eq, not_false_eq_true, if_true, Sem.run_bind, hpart a 0 (vS algB) rfl, hpart b 0 (vS algB) rfl, hpart a 1 (vS a) rfl, hpart b 1 (vS b) rfl, Result.andThen_ok]
    rw [show (9999 : Nat) = 9998 + 1 from rfl, e0]
    simp only [Result.andThen_ok]
    simp only [beq_self_eq_true, Bool.not_true, Bool.false_eq_true, if_false, Sem.run_bind, hpart a 1 (vS a) rfl, hpart b 1 (vS b) rfl, Result.andThen_ok]
    rw [e1]
    simp only [Result.andThen_ok]
    rw [show ((⟨a.toArray⟩ : ByteArray).toList == (⟨b.toArray⟩ : ByteArray).toList) = decide (a = b) from by rw [ByteArray.toList_eq, ByteArray.toList_eq]; simp [Bool.beq_eq_decide_eq]]
    by_cases hab : a = b <;> simp [hab]
  have q2 : (Op.equalIn 10000 t (.agg ⟨hashV a⟩) (.agg ⟨hashV b⟩)).run P w = .ok (decide (a = b)) w := q
  simp only [execOp, hf.eval hx, hf.eval hy, Sem.run_bind, run_eqGuard_agg w .neq t x y _ _ hm, Result.andThen_ok, run_neq_struct, q2]
  simp
end Go.Proofs.YtlhncphipfkkjaaGreatDoor

namespace Go.Proofs.YtlhncphipfkkjaaGreatDoor
open Go
theorem neq53 {F : FL} {H : HL} {d : Option Nat} {ty t' : TypeId} {pos : String} {aft : Array Edge} {gd : Option (Nat × Bool)} {x y : Operand} {a b : List UInt8} {r : Bool} (hx : ev F x = some (.agg ⟨hashV a⟩)) (hy : ev F y = some (.agg ⟨hashV b⟩)) (hr : decide (a ≠ b) = r) :
    Yl Tryz.prog F H ⟨d, .binOp .neq 53 x y t', ty, pos, aft, gd⟩ (.bool r) :=
  Yl.neqHash (u := 9) (by kernel_rfl) (by kernel_rfl) (by kernel_rfl) (by kernel_rfl) Tryz.underlying9 hx hy hr
def er1 : List UInt8 := [109, 105, 115, 109, 97, 116, 99, 104, 101, 100, 32, 100, 105, 103, 101, 115, 116, 58, 32, 68, 105, 103, 101, 115, 116, 40, 41, 61, 37, 115, 44, 32, 83, 72, 65, 50, 53, 54, 40, 67, 111, 109, 112, 114, 101, 115, 115, 101, 100, 40, 41, 41, 61, 37, 115]
def er2 : List UInt8 := [109, 105, 115, 109, 97, 116, 99, 104, 101, 100, 32, 100, 105, 102, 102, 105, 100, 58, 32, 68, 105, 102, 102, 73, 68, 40, 41, 61, 37, 115, 44, 32, 83, 72, 65, 50, 53, 54, 40, 71, 117, 110, 122, 105, 112, 40, 67, 111, 109, 112, 114, 101, 115, 115, 101, 100, 40, 41, 41, 41, 61, 37, 115]
def er3 : List UInt8 := [109, 105, 115, 109, 97, 116, 99, 104, 101, 100, 32, 100, 105, 102, 102, 105, 100, 58, 32, 68, 105, 102, 102, 73, 68, 40, 41, 61, 37, 115, 44, 32, 83, 72, 65, 50, 53, 54, 40, 85, 110, 99, 111, 109, 112, 114, 101, 115, 115, 101, 100, 40, 41, 41, 61, 37, 115]
def er4 : List UInt8 := [109, 105, 115, 109, 97, 116, 99, 104, 101, 100, 32, 115, 105, 122, 101, 58, 32, 83, 105, 122, 101, 40, 41, 61, 37, 100, 44, 32, 108, 101, 110, 40, 67, 111, 109, 112, 114, 101, 115, 115, 101, 100, 40, 41, 41, 61, 37, 100]
theorem layerFast_g (dg df m z d : List UInt8) (n : Nat) (bo : Nat) (g : World) (Fr : HL) : Gives Tryz.prog 19 #[.iface 56 (.agg ⟨saidL dg df n m z d⟩), sl bo 0 1 1] g ((bo, oC [.func (.func 20) #[] #[]] 83) :: Fr) Unit (fun _ => .nilIface) (fun _ => Fr) := by
  refine Gives.enter Tryz.func19 rfl Tryz.ntmps19 rfl ?_
  refine TC.seq ?_
  refine TC.region ?_
  refine TL.val (Yl.assign rfl) rfl ?_
  refine TL.next ?_
  refine TC.seq ?_
  refine TC.region ?_
  refine TL.val (Yl.move rfl) rfl ?_
  refine TL.call (Cll.func (xs := [_]) (vs := [_]) Tryz.func23 rfl (by kernel_rfl) ⟨rfl, trivial⟩) rfl (makeOptsF_g bo g Fr) fun _ => ?_
  refine TL.eff (Eff.alloc zr67 rfl) rfl fun b5 => ?_
  refine TL.skp (Skp.storeA (vs := [.bool true]) sz67 rfl rfl rfl (by repeat (first | exact Foc.head | apply Foc.tail | apply Foc.right)) (Nat.le_of_ble_eq_true rfl) rfl) ?_
  refine TL.next ?_
  refine TC.seq ?_
  refine TC.seq ?_
  refine TC.region ?_
  refine TL.val (Yl.fieldAddr (k := 4) (m := 0) (o := 0) Tryz.underlying67 rfl sz4 rfl rfl) rfl ?_
  refine TL.val (Yl.load1 (v := .bool true) Tryz.underlying4 rfl rfl (by repeat (first | exact Foc.head | apply Foc.tail | apply Foc.right)) rfl) rfl ?_
  refine TL.next ?_
  refine TC.yes rfl ?_
  refine TC.seq ?_
  refine TC.region ?_
  refine TL.val (Yl.move rfl) rfl ?_
  refine TL.call (Cll.func (xs := [_]) (vs := [_]) Tryz.func24 rfl (by kernel_rfl) ⟨rfl, trivial⟩) rfl (exists_g dg df m z d n g _) fun _ => ?_
  refine TL.val (Yl.move rfl) rfl ?_
  refine TL.val (Yl.extract rfl rfl) rfl ?_
  refine TL.val (Yl.extract rfl rfl) rfl ?_
  refine TL.val (Yl.assign rfl) rfl ?_
  refine TL.val (Yl.assign rfl) rfl ?_
  refine TL.next ?_
  refine TC.seq ?_
  refine TC.seq ?_
  refine TC.region ?_
  refine TL.val (Yl.move rfl) rfl ?_
  refine TL.val (Yl.neqNilN Tryz.underlying58 rfl rfl) rfl ?_
  refine TL.next ?_
  refine TC.no rfl ?_
  refine TC.skip_next ?_
  refine TC.seq ?_
  refine TC.seq ?_
  refine TC.region ?_
  refine TL.val (Yl.move rfl) rfl ?_
  refine TL.val (Yl.not rfl) rfl ?_
  refine TL.next ?_
  refine TC.no rfl ?_
  refine TC.skip_next ?_
  refine TC.seq ?_
  refine TC.region ?_
  refine TL.val (Yl.assign rfl) rfl ?_
  refine TL.next ?_
  exact TC.back1 () rfl rfl (fun _ h => h.sub (by repeat (first | exact List.Sublist.refl _ | exact List.sublist_append_right _ _ | refine List.Sublist.cons_cons _ ?_ | refine List.Sublist.append (List.Sublist.refl _) ?_ | refine List.Sublist.cons _ ?_ | refine List.Sublist.trans ?_ (List.sublist_append_right _ _))))
theorem SlOf.nil2 (b : Nat) : SlOf 9 1 [] (sl b 0 0 0) [(b, oC [] 9)] := .inr ⟨b, 0, 0, 0, [], rfl, rfl, Nat.le_refl _, Nat.le_refl _, rfl⟩
set_option maxHeartbeats 1000000 in
theorem layerOk_g (ea : Addr) (m : List UInt8) (es : List TE) (z d r : List UInt8) (c : Nat) (hc : 0 < c) (hcm : c ≤ 60000) (ht : TarOf es d) (hz : z = gzHead ++ r) (hok : GzOk z d c 0 0 10 false false) (hzs : z.length ≤ 1000000000) (g : World) (Fr : HL) : Gives Tryz.prog 19 #[.iface 56 (.agg ⟨saidL (sumH z) (sumH d) z.length m z d⟩), .slice none 0 0] g (eofB ea :: Fr) Unit (fun _ => .nilIface) (fun _ => eofB ea :: Fr) := by
  refine Gives.enter Tryz.func19 rfl Tryz.ntmps19 rfl ?_
  refine TC.seq ?_
  refine TC.region ?_
  refine TL.val (Yl.assign rfl) rfl ?_
  refine TL.next ?_
  refine TC.seq ?_
  refine TC.region ?_
  refine TL.val (Yl.move rfl) rfl ?_
  refine TL.call (Cll.func (xs := [_]) (vs := [_]) Tryz.func23 rfl (by kernel_rfl) ⟨rfl, trivial⟩) rfl (makeOpts_g g _) fun _ => ?_
  refine TL.eff (Eff.alloc zr67 rfl) rfl fun b5 => ?_
  refine TL.skp (Skp.storeA (vs := [.bool false]) sz67 rfl rfl rfl (by repeat (first | exact Foc.head | apply Foc.tail | apply Foc.right)) (Nat.le_of_ble_eq_true rfl) rfl) ?_
  refine TL.next ?_
  refine TC.seq ?_
  refine TC.seq ?_
  refine TC.region ?_
  refine TL.val (Yl.fieldAddr (k := 4) (m := 0) (o := 0) Tryz.underlying67 rfl sz4 rfl rfl) rfl ?_
  refine TL.val (Yl.load1 (v := .bool false) Tryz.underlying4 rfl rfl (by repeat (first | exact Foc.head | apply Foc.tail | apply Foc.right)) rfl) rfl ?_
  refine TL.next ?_
  refine TC.no rfl ?_
  refine TC.skip_next ?_
  refine TC.seq ?_
  refine TC.region ?_
  refine TL.val (Yl.move rfl) rfl ?_
  refine TL.call (Cll.func (xs := [_]) (vs := [_]) Tryz.func26 rfl (by kernel_rfl) ⟨rfl, trivial⟩) rfl (Gives.of (fun _ h => h.perm (List.Perm.swap _ _ _)) (compute_g ea (sumH z) (sumH d) m z.length es z d r c hc hcm ht hz hok hzs g ((b5, _) :: Fr))) fun b8 => ?_
  refine TL.val (Yl.move rfl) rfl ?_
  refine TL.val (Yl.extract rfl rfl) rfl ?_
  refine TL.val (Yl.extract rfl rfl) rfl ?_
  refine TL.val (Yl.assign rfl) rfl ?_
  refine TL.val (Yl.assign rfl) rfl ?_
  refine TL.next ?_
  refine TC.seq ?_
  refine TC.seq ?_
  refine TC.region ?_
  refine TL.val (Yl.move rfl) rfl ?_
  refine TL.val (Yl.neqNilN Tryz.underlying58 rfl rfl) rfl ?_
  refine TL.next ?_
  refine TC.no rfl ?_
  refine TC.skip_next ?_
  refine TC.seq ?_
  refine TC.region ?_
  refine TL.eff (Eff.lits1 [] (vs := []) Tryz.underlying37 sz9 zr9 rfl trivial rfl rfl rfl) rfl fun b37 => ?_
  refine TL.val (Yl.assign rfl) rfl ?_
  refine TL.next ?_
  refine TC.seq ?_
  refine TC.region ?_
  refine TL.val (Yl.move rfl) rfl ?_
  refine TL.quiet (Cll.inv (xs := []) (vs := []) Tryz.func124 rfl (by kernel_rfl) (m56Digest _) rfl trivial) rfl (Quiet.none (digest_q (sumH z) (sumH d) m z d z.length)) ?_
  refine TL.val (Yl.move rfl) rfl ?_
  refine TL.val (Yl.extract rfl rfl) rfl ?_
  refine TL.val (Yl.extract rfl rfl) rfl ?_
  refine TL.eff (Eff.alloc zr53 rfl) rfl fun b11 => ?_
  refine TL.skp (Skp.storeA (vs := hashV (sumH z)) sz53 rfl rfl rfl (by repeat (first | exact Foc.head | apply Foc.tail | apply Foc.right)) (Nat.le_of_ble_eq_true rfl) rfl) ?_
  refine TL.val (Yl.assign rfl) rfl ?_
  refine TL.next ?_
  refine TC.seq ?_
  refine TC.seq ?_
  refine TC.region ?_
  refine TL.val (Yl.move rfl) rfl ?_
  refine TL.val (Yl.neqNilN Tryz.underlying58 rfl rfl) rfl ?_
  refine TL.next ?_
  refine TC.no rfl ?_
  refine TC.skip_next ?_
  refine TC.seq ?_
  refine TC.region ?_
  refine TL.val (Yl.move rfl) rfl ?_
  refine TL.quiet (Cll.inv (xs := []) (vs := []) Tryz.func123 rfl (by kernel_rfl) (m56DiffID _) rfl trivial) rfl (Quiet.none (diffid_q (sumH z) (sumH d) m z d z.length)) ?_
  refine TL.val (Yl.move rfl) rfl ?_
  refine TL.val (Yl.extract rfl rfl) rfl ?_
  refine TL.val (Yl.extract rfl rfl) rfl ?_
  refine TL.eff (Eff.alloc zr53 rfl) rfl fun b12 => ?_
  refine TL.skp (Skp.storeA (vs := hashV (sumH d)) sz53 rfl rfl rfl (by repeat (first | exact Foc.head | apply Foc.tail | apply Foc.right)) (Nat.le_of_ble_eq_true rfl) rfl) ?_
  refine TL.val (Yl.assign rfl) rfl ?_
  refine TL.next ?_
  refine TC.seq ?_
  refine TC.seq ?_
  refine TC.region ?_
  refine TL.val (Yl.move rfl) rfl ?_
  refine TL.val (Yl.neqNilN Tryz.underlying58 rfl rfl) rfl ?_
  refine TL.next ?_
  refine TC.no rfl ?_
  refine TC.skip_next ?_
  refine TC.seq ?_
  refine TC.region ?_
  refine TL.val (Yl.move rfl) rfl ?_
  refine TL.quiet (Cll.inv (xs := []) (vs := []) Tryz.func125 rfl (by kernel_rfl) (m56Size _) rfl trivial) rfl (Quiet.none (size56_q (sumH z) (sumH d) m z d z.length)) ?_
  refine TL.val (Yl.move rfl) rfl ?_
  refine TL.val (Yl.extract rfl rfl) rfl ?_
  refine TL.val (Yl.extract rfl rfl) rfl ?_
  refine TL.val (Yl.assign rfl) rfl ?_
  refine TL.val (Yl.assign rfl) rfl ?_
  refine TL.next ?_
  refine TC.seq ?_
  refine TC.seq ?_
  refine TC.region ?_
  refine TL.val (Yl.move rfl) rfl ?_
  refine TL.val (Yl.neqNilN Tryz.underlying58 rfl rfl) rfl ?_
  refine TL.next ?_
  refine TC.no rfl ?_
  refine TC.skip_next ?_
  refine TC.seq ?_
  refine TC.seq ?_
  refine TC.draws [] _ mixed (by kernel_rfl) rfl (fun _ h => h) ?_
  refine TA.load 0 rfl (by kernel_rfl) (Yl.loadA (vs := hashV (sumH z)) Tryz.underlying53 rfl sz53 rfl (by repeat (first | exact Foc.head | apply Foc.tail | apply Foc.right)) rfl) rfl ?_
  refine TA.pure 1 rfl (by kernel_rfl) (Yl.move rfl) rfl ?_
  refine TA.pure 2 rfl (by kernel_rfl) (Yl.nilCheckP rfl) rfl ?_
  refine TA.pure 3 rfl (by kernel_rfl) (Yl.fieldAddr (k := 53) (m := 0) (o := 0) Tryz.underlying80 rfl sz53 rfl rfl) rfl ?_
  refine TA.load 4 rfl (by kernel_rfl) (Yl.loadA (vs := hashV (sumH z)) Tryz.underlying53 rfl sz53 rfl (by repeat (first | exact Foc.head | apply Foc.tail | apply Foc.right)) rfl) rfl ?_
  refine TA.pure 5 rfl (by kernel_rfl) (neq53 rfl rfl (decide_eq_false (fun h => h rfl))) rfl ?_
  refine TA.next (by kernel_rfl) ?_
  refine TC.no rfl ?_
  refine TC.skip_next ?_
  refine TC.seq ?_
  refine TC.seq ?_
  refine TC.draws [] _ mixed (by kernel_rfl) rfl (fun _ h => h) ?_
  refine TA.load 0 rfl (by kernel_rfl) (Yl.loadA (vs := hashV (sumH d)) Tryz.underlying53 rfl sz53 rfl (by repeat (first | exact Foc.head | apply Foc.tail | apply Foc.right)) rfl) rfl ?_
  refine TA.pure 1 rfl (by kernel_rfl) (Yl.move rfl) rfl ?_
  refine TA.pure 2 rfl (by kernel_rfl) (Yl.nilCheckP rfl) rfl ?_
  refine TA.pure 3 rfl (by kernel_rfl) (Yl.fieldAddr (k := 53) (m := 3) (o := 3) Tryz.underlying80 rfl sz53 rfl rfl) rfl ?_
  refine TA.load 4 rfl (by kernel_rfl) (Yl.loadA (vs := hashV (sumH d)) Tryz.underlying53 rfl sz53 rfl (by repeat (first | exact Foc.head | apply Foc.tail | apply Foc.right)) rfl) rfl ?_
  refine TA.pure 5 rfl (by kernel_rfl) (neq53 rfl rfl (decide_eq_false (fun h => h rfl))) rfl ?_
  refine TA.next (by kernel_rfl) ?_
  refine TC.no rfl ?_
  refine TC.skip_next ?_
  refine TC.seq ?_
  refine TC.seq ?_
  refine TC.draws [] _ mixed (by kernel_rfl) rfl (fun _ h => h) ?_
  refine TA.load 0 rfl (by kernel_rfl) (Yl.loadA (vs := hashV (sumH d)) Tryz.underlying53 rfl sz53 rfl (by repeat (first | exact Foc.head | apply Foc.tail | apply Foc.right)) rfl) rfl ?_
  refine TA.pure 1 rfl (by kernel_rfl) (Yl.move rfl) rfl ?_
  refine TA.pure 2 rfl (by kernel_rfl) (Yl.nilCheckP rfl) rfl ?_
  refine TA.pure 3 rfl (by kernel_rfl) (Yl.fieldAddr (k := 53) (m := 5) (o := 5) Tryz.underlying80 rfl sz53 rfl rfl) rfl ?_
  refine TA.load 4 rfl (by kernel_rfl) (Yl.loadA (vs := hashV (sumH d)) Tryz.underlying53 rfl sz53 rfl (by repeat (first | exact Foc.head | apply Foc.tail | apply Foc.right)) rfl) rfl ?_
  refine TA.pure 5 rfl (by kernel_rfl) (neq53 rfl rfl (decide_eq_false (fun h => h rfl))) rfl ?_
  refine TA.next (by kernel_rfl) ?_
  refine TC.no rfl ?_
  refine TC.skip_next ?_
  refine TC.seq ?_
  refine TC.seq ?_
  refine TC.region ?_
  refine TL.val (Yl.move rfl) rfl ?_
  refine TL.val (Yl.move rfl) rfl ?_
  refine TL.val (Yl.nilCheckP rfl) rfl ?_
  refine TL.val (Yl.fieldAddr (k := 2) (m := 2) (o := 2) Tryz.underlying80 rfl sz2 rfl rfl) rfl ?_
  refine TL.val (Yl.load1 (v := .int .i64 (z.length : Int)) Tryz.underlying2 rfl rfl (by repeat (first | exact Foc.head | apply Foc.tail | apply Foc.right)) rfl) rfl ?_
  refine TL.val (Yl.neq rfl rfl (decide_eq_false (fun h => h rfl))) rfl ?_
  refine TL.next ?_
  refine TC.no rfl ?_
  refine TC.skip_next ?_
  refine TC.seq ?_
  refine TC.seq ?_
  refine TC.region ?_
  refine TL.val (Yl.move rfl) rfl ?_
  refine TL.val (Yl.lenL Tryz.underlying37 rfl) rfl ?_
  refine TL.val (Yl.neq rfl rfl rfl) rfl ?_
  refine TL.next ?_
  refine TC.no rfl ?_
  refine TC.skip_next ?_
  refine TC.seq ?_
  refine TC.region ?_
  refine TL.val (Yl.assign rfl) rfl ?_
  refine TL.next ?_
  exact TC.back1 () rfl rfl (fun _ h => h.sub (by repeat (first | exact List.Sublist.refl _ | exact List.sublist_append_right _ _ | refine List.Sublist.cons_cons _ ?_ | refine List.Sublist.append (List.Sublist.refl _) ?_ | refine List.Sublist.cons _ ?_ | refine List.Sublist.trans ?_ (List.sublist_append_right _ _))))
set_option maxHeartbeats 1000000 in
theorem layerDg_g (ea : Addr) (m : List UInt8) (es : List TE) (z d r : List UInt8) (c : Nat) (hc : 0 < c) (hcm : c ≤ 60000) (ht : TarOf es d) (hz : z = gzHead ++ r) (hok : GzOk z d c 0 0 10 false false) (hzs : z.length ≤ 1000000000) (x : List UInt8) (hx : x ≠ sumH z) (g : World) (Fr : HL) : Gives Tryz.prog 19 #[.iface 56 (.agg ⟨saidL x (sumH d) z.length m z d⟩), .slice none 0 0] g (eofB ea :: Fr) Nat (fun b => .iface 94 (pt b 0)) (fun _ => eofB ea :: Fr) := by
  refine Gives.enter Tryz.func19 rfl Tryz.ntmps19 rfl ?_
  refine TC.seq ?_
  refine TC.region ?_
  refine TL.val (Yl.assign rfl) rfl ?_
  refine TL.next ?_
  refine TC.seq ?_
  refine TC.region ?_
  refine TL.val (Yl.move rfl) rfl ?_
  refine TL.call (Cll.func (xs := [_]) (vs := [_]) Tryz.func23 rfl (by kernel_rfl) ⟨rfl, trivial⟩) rfl (makeOpts_g g _) fun _ => ?_
  refine TL.eff (Eff.alloc zr67 rfl) rfl fun b5 => ?_
  refine TL.skp (Skp.storeA (vs := [.bool false]) sz67 rfl rfl rfl (by repeat (first | exact Foc.head | apply Foc.tail | apply Foc.right)) (Nat.le_of_ble_eq_true rfl) rfl) ?_
  refine TL.next ?_
  refine TC.seq ?_
  refine TC.seq ?_
  refine TC.region ?_
  refine TL.val (Yl.fieldAddr (k := 4) (m := 0) (o := 0) Tryz.underlying67 rfl sz4 rfl rfl) rfl ?_
  refine TL.val (Yl.load1 (v := .bool false) Tryz.underlying4 rfl rfl (by repeat (first | exact Foc.head | apply Foc.tail | apply Foc.right)) rfl) rfl ?_
  refine TL.next ?_
  refine TC.no rfl ?_
  refine TC.skip_next ?_
  refine TC.seq ?_
  refine TC.region ?_
  refine TL.val (Yl.move rfl) rfl ?_
  refine TL.call (Cll.func (xs := [_]) (vs := [_]) Tryz.func26 rfl (by kernel_rfl) ⟨rfl, trivial⟩) rfl (Gives.of (fun _ h => h.perm (List.Perm.swap _ _ _)) (compute_g ea x (sumH d) m z.length es z d r c hc hcm ht hz hok hzs g ((b5, _) :: Fr))) fun b8 => ?_
  refine TL.val (Yl.move rfl) rfl ?_
  refine TL.val (Yl.extract rfl rfl) rfl ?_
  refine TL.val (Yl.extract rfl rfl) rfl ?_
  refine TL.val (Yl.assign rfl) rfl ?_
  refine TL.val (Yl.assign rfl) rfl ?_
  refine TL.next ?_
  refine TC.seq ?_
  refine TC.seq ?_
  refine TC.region ?_
  refine TL.val (Yl.move rfl) rfl ?_
  refine TL.val (Yl.neqNilN Tryz.underlying58 rfl rfl) rfl ?_
  refine TL.next ?_
  refine TC.no rfl ?_
  refine TC.skip_next ?_
  refine TC.seq ?_
  refine TC.region ?_
  refine TL.eff (Eff.lits1 [] (vs := []) Tryz.underlying37 sz9 zr9 rfl trivial rfl rfl rfl) rfl fun b37 => ?_
  refine TL.val (Yl.assign rfl) rfl ?_
  refine TL.next ?_
  refine TC.seq ?_
  refine TC.region ?_
  refine TL.val (Yl.move rfl) rfl ?_
  refine TL.quiet (Cll.inv (xs := []) (vs := []) Tryz.func124 rfl (by kernel_rfl) (m56Digest _) rfl trivial) rfl (Quiet.none (digest_q x (sumH d) m z d z.length)) ?_
  refine TL.val (Yl.move rfl) rfl ?_
  refine TL.val (Yl.extract rfl rfl) rfl ?_
  refine TL.val (Yl.extract rfl rfl) rfl ?_
  refine TL.eff (Eff.alloc zr53 rfl) rfl fun b11 => ?_
  refine TL.skp (Skp.storeA (vs := hashV x) sz53 rfl rfl rfl (by repeat (first | exact Foc.head | apply Foc.tail | apply Foc.right)) (Nat.le_of_ble_eq_true rfl) rfl) ?_
  refine TL.val (Yl.assign rfl) rfl ?_
  refine TL.next ?_
  refine TC.seq ?_
  refine TC.seq ?_
  refine TC.region ?_
  refine TL.val (Yl.move rfl) rfl ?_
  refine TL.val (Yl.neqNilN Tryz.underlying58 rfl rfl) rfl ?_
  refine TL.next ?_
  refine TC.no rfl ?_
  refine TC.skip_next ?_
  refine TC.seq ?_
  refine TC.region ?_
  refine TL.val (Yl.move rfl) rfl ?_
  refine TL.quiet (Cll.inv (xs := []) (vs := []) Tryz.func123 rfl (by kernel_rfl) (m56DiffID _) rfl trivial) rfl (Quiet.none (diffid_q x (sumH d) m z d z.length)) ?_
  refine TL.val (Yl.move rfl) rfl ?_
  refine TL.val (Yl.extract rfl rfl) rfl ?_
  refine TL.val (Yl.extract rfl rfl) rfl ?_
  refine TL.eff (Eff.alloc zr53 rfl) rfl fun b12 => ?_
  refine TL.skp (Skp.storeA (vs := hashV (sumH d)) sz53 rfl rfl rfl (by repeat (first | exact Foc.head | apply Foc.tail | apply Foc.right)) (Nat.le_of_ble_eq_true rfl) rfl) ?_
  refine TL.val (Yl.assign rfl) rfl ?_
  refine TL.next ?_
  refine TC.seq ?_
  refine TC.seq ?_
  refine TC.region ?_
  refine TL.val (Yl.move rfl) rfl ?_
  refine TL.val (Yl.neqNilN Tryz.underlying58 rfl rfl) rfl ?_
  refine TL.next ?_
  refine TC.no rfl ?_
  refine TC.skip_next ?_
  refine TC.seq ?_
  refine TC.region ?_
  refine TL.val (Yl.move rfl) rfl ?_
  refine TL.quiet (Cll.inv (xs := []) (vs := []) Tryz.func125 rfl (by kernel_rfl) (m56Size _) rfl trivial) rfl (Quiet.none (size56_q x (sumH d) m z d z.length)) ?_
  refine TL.val (Yl.move rfl) rfl ?_
  refine TL.val (Yl.extract rfl rfl) rfl ?_
  refine TL.val (Yl.extract rfl rfl) rfl ?_
  refine TL.val (Yl.assign rfl) rfl ?_
  refine TL.val (Yl.assign rfl) rfl ?_
  refine TL.next ?_
  refine TC.seq ?_
  refine TC.seq ?_
  refine TC.region ?_
  refine TL.val (Yl.move rfl) rfl ?_
  refine TL.val (Yl.neqNilN Tryz.underlying58 rfl rfl) rfl ?_
  refine TL.next ?_
  refine TC.no rfl ?_
  refine TC.skip_next ?_
  refine TC.seq ?_
  refine TC.seq ?_
  refine TC.draws [] _ mixed (by kernel_rfl) rfl (fun _ h => h) ?_
  refine TA.load 0 rfl (by kernel_rfl) (Yl.loadA (vs := hashV x) Tryz.underlying53 rfl sz53 rfl (by repeat (first | exact Foc.head | apply Foc.tail | apply Foc.right)) rfl) rfl ?_
  refine TA.pure 1 rfl (by kernel_rfl) (Yl.move rfl) rfl ?_
  refine TA.pure 2 rfl (by kernel_rfl) (Yl.nilCheckP rfl) rfl ?_
  refine TA.pure 3 rfl (by kernel_rfl) (Yl.fieldAddr (k := 53) (m := 0) (o := 0) Tryz.underlying80 rfl sz53 rfl rfl) rfl ?_
  refine TA.load 4 rfl (by kernel_rfl) (Yl.loadA (vs := hashV (sumH z)) Tryz.underlying53 rfl sz53 rfl (by repeat (first | exact Foc.head | apply Foc.tail | apply Foc.right)) rfl) rfl ?_
  refine TA.pure 5 rfl (by kernel_rfl) (neq53 rfl rfl (decide_eq_true hx)) rfl ?_
  refine TA.next (by kernel_rfl) ?_
  refine TC.yes rfl ?_
  refine TC.region ?_
  refine TL.val (Yl.move rfl) rfl ?_
  refine TL.eff (Eff.lits1 [_] (vs := [vS er1]) Tryz.underlying37 sz9 zr9 rfl ⟨rfl, trivial⟩ rfl rfl rfl) rfl fun b69 => ?_
  refine TL.eff (Eff.app (sz := 1) (bs := 16) (m := 1) (news := [vS er1]) (R := (b69, _) :: (b12, _) :: (b11, _) :: (b8, _) :: eofB ea :: (b5, _) :: Fr) Tryz.underlying37 Tryz.underlying37 (.inl ⟨_, rfl⟩) sz9 by9 zr9 rfl rfl rfl (SlOf.nil2 b37) (fun _ h => Own.mid (A := [_, _, _]) h) (Src.sl (cs := [vS er1]) (K := _) (b := b69) (off := 0) .head rfl) rfl (by intro y hy; rw [List.mem_singleton.1 hy]; rfl) (by omega) (by omega) (by simp only [List.length_cons, List.length_nil]; omega)) rfl fun p => ?_
  obtain ⟨⟨v1, H1⟩, h1⟩ := p
  dsimp only at h1 ⊢
  rcases h1 with ⟨_, hh, _⟩ | ⟨be, oe, cn, ce, ccs, rfl, rfl, hcn, hcl, hct⟩
  · simp at hh
  have hcn2 : cn = 1 := by
    have := congrArg List.length hct
    rw [List.length_take, List.length_drop] at this
    simp only [List.length_append, List.length_cons, List.length_nil] at this
    omega
  subst hcn2
  have ha0 : ccs[oe + 0]? = some (vS er1) := by
    have := congrArg (fun y : List Value => y[0]?) hct
    simp only [List.getElem?_take, List.getElem?_drop] at this
    rwa [if_pos (by omega)] at this
  refine TL.val (Yl.assign rfl) rfl ?_
  refine TL.next ?_
  refine TC.seq ?_
  refine TC.seq ?_
  refine TC.draws [] _ mixed (by kernel_rfl) rfl (fun _ h => h) ?_
  refine TA.load 0 rfl (by kernel_rfl) (Yl.loadA (vs := hashV (sumH d)) Tryz.underlying53 rfl sz53 rfl (by repeat (first | exact Foc.head | apply Foc.tail | apply Foc.right)) rfl) rfl ?_
  refine TA.pure 1 rfl (by kernel_rfl) (Yl.move rfl) rfl ?_
  refine TA.pure 2 rfl (by kernel_rfl) (Yl.nilCheckP rfl) rfl ?_
  refine TA.pure 3 rfl (by kernel_rfl) (Yl.fieldAddr (k := 53) (m := 3) (o := 3) Tryz.underlying80 rfl sz53 rfl rfl) rfl ?_
  refine TA.load 4 rfl (by kernel_rfl) (Yl.loadA (vs := hashV (sumH d)) Tryz.underlying53 rfl sz53 rfl (by repeat (first | exact Foc.head | apply Foc.tail | apply Foc.right)) rfl) rfl ?_
  refine TA.pure 5 rfl (by kernel_rfl) (neq53 rfl rfl (decide_eq_false (fun h => h rfl))) rfl ?_
  refine TA.next (by kernel_rfl) ?_
  refine TC.no rfl ?_
  refine TC.skip_next ?_
  refine TC.seq ?_
  refine TC.seq ?_
  refine TC.draws [] _ mixed (by kernel_rfl) rfl (fun _ h => h) ?_
  refine TA.load 0 rfl (by kernel_rfl) (Yl.loadA (vs := hashV (sumH d)) Tryz.underlying53 rfl sz53 rfl (by repeat (first | exact Foc.head | apply Foc.tail | apply Foc.right)) rfl) rfl ?_
  refine TA.pure 1 rfl (by kernel_rfl) (Yl.move rfl) rfl ?_
  refine TA.pure 2 rfl (by kernel_rfl) (Yl.nilCheckP rfl) rfl ?_
  refine TA.pure 3 rfl (by kernel_rfl) (Yl.fieldAddr (k := 53) (m := 5) (o := 5) Tryz.underlying80 rfl sz53 rfl rfl) rfl ?_
  refine TA.load 4 rfl (by kernel_rfl) (Yl.loadA (vs := hashV (sumH d)) Tryz.underlying53 rfl sz53 rfl (by repeat (first | exact Foc.head | apply Foc.tail | apply Foc.right)) rfl) rfl ?_
  refine TA.pure 5 rfl (by kernel_rfl) (neq53 rfl rfl (decide_eq_false (fun h => h rfl))) rfl ?_
  refine TA.next (by kernel_rfl) ?_
  refine TC.no rfl ?_
  refine TC.skip_next ?_
  refine TC.seq ?_
  refine TC.seq ?_
  refine TC.region ?_
  refine TL.val (Yl.move rfl) rfl ?_
  refine TL.val (Yl.move rfl) rfl ?_
  refine TL.val (Yl.nilCheckP rfl) rfl ?_
  refine TL.val (Yl.fieldAddr (k := 2) (m := 2) (o := 2) Tryz.underlying80 rfl sz2 rfl rfl) rfl ?_
  refine TL.val (Yl.load1 (v := .int .i64 (z.length : Int)) Tryz.underlying2 rfl rfl (by repeat (first | exact Foc.head | apply Foc.tail | apply Foc.right)) rfl) rfl ?_
  refine TL.val (Yl.neq rfl rfl (decide_eq_false (fun h => h rfl))) rfl ?_
  refine TL.next ?_
  refine TC.no rfl ?_
  refine TC.skip_next ?_
  refine TC.seq ?_
  refine TC.seq ?_
  refine TC.region ?_
  refine TL.val (Yl.move rfl) rfl ?_
  refine TL.val (Yl.lenL Tryz.underlying37 rfl) rfl ?_
  refine TL.val (Yl.neq rfl rfl rfl) rfl ?_
  refine TL.next ?_
  refine TC.yes rfl ?_
  refine TC.seq ?_
  refine TC.region ?_
  refine TL.val (Yl.move rfl) rfl ?_
  refine TL.quiet (Cll.func (xs := [_, _]) (vs := [_, _]) Tryz.func27 rfl (by kernel_rfl) ⟨rfl, rfl, trivial⟩) rfl (fun g w ho => join1_q er1 _ ccs be oe ce ha0 g w (ho.sub (List.sublist_append_left [_] _))) ?_
  refine TL.call (Cll.func (xs := [_]) (vs := [_]) Tryz.func25 rfl (by kernel_rfl) ⟨rfl, trivial⟩) rfl (errNew_g er1 g _) fun bx => ?_
  refine TL.val (Yl.assign rfl) rfl ?_
  refine TL.next ?_
  exact TC.back1 (σ := Nat) bx rfl rfl (fun _ h => h.sub (by repeat (first | exact List.Sublist.refl _ | exact List.sublist_append_right _ _ | refine List.Sublist.cons_cons _ ?_ | refine List.Sublist.append (List.Sublist.refl _) ?_ | refine List.Sublist.cons _ ?_ | refine List.Sublist.trans ?_ (List.sublist_append_right _ _))))
set_option maxHeartbeats 1000000 in
theorem layerDf_g (ea : Addr) (m : List UInt8) (es : List TE) (z d r : List UInt8) (c : Nat) (hc : 0 < c) (hcm : c ≤ 60000) (ht : TarOf es d) (hz : z = gzHead ++ r) (hok : GzOk z d c 0 0 10 false false) (hzs : z.length ≤ 1000000000) (x : List UInt8) (hx : x ≠ sumH d) (g : World) (Fr : HL) : Gives Tryz.prog 19 #[.iface 56 (.agg ⟨saidL (sumH z) x z.length m z d⟩), .slice none 0 0] g (eofB ea :: Fr) Nat (fun b => .iface 94 (pt b 0)) (fun _ => eofB ea :: Fr) := by
  refine Gives.enter Tryz.func19 rfl Tryz.ntmps19 rfl ?_
  refine TC.seq ?_
  refine TC.region ?_
  refine TL.val (Yl.assign rfl) rfl ?_
  refine TL.next ?_
  refine TC.seq ?_
  refine TC.region ?_
  refine TL.val (Yl.move rfl) rfl ?_
  refine TL.call (Cll.func (xs := [_]) (vs := [_]) Tryz.func23 rfl (by kernel_rfl) ⟨rfl, trivial⟩) rfl (makeOpts_g g _) fun _ => ?_
  refine TL.eff (Eff.alloc zr67 rfl) rfl fun b5 => ?_
  refine TL.skp (Skp.storeA (vs := [.bool false]) sz67 rfl rfl rfl (by repeat (first | exact Foc.head | apply Foc.tail | apply Foc.right)) (Nat.le_of_ble_eq_true rfl) rfl) ?_
  refine TL.next ?_
  refine TC.seq ?_
  refine TC.seq ?_
  refine TC.region ?_
  refine TL.val (Yl.fieldAddr (k := 4) (m := 0) (o := 0) Tryz.underlying67 rfl sz4 rfl rfl) rfl ?_
  refine TL.val (Yl.load1 (v := .bool false) Tryz.underlying4 rfl rfl (by repeat (first | exact Foc.head | apply Foc.tail | apply Foc.right)) rfl) rfl ?_
  refine TL.next ?_
  refine TC.no rfl ?_
  refine TC.skip_next ?_
  refine TC.seq ?_
  refine TC.region ?_
  refine TL.val (Yl.move rfl) rfl ?_
  refine TL.call (Cll.func (xs := [_]) (vs := [_]) Tryz.func26 rfl (by kernel_rfl) ⟨rfl, trivial⟩) rfl (Gives.of (fun _ h => h.perm (List.Perm.swap _ _ _)) (compute_g ea (sumH z) x m z.length es z d r c hc hcm ht hz hok hzs g ((b5, _) :: Fr))) fun b8 => ?_
  refine TL.val (Yl.move rfl) rfl ?_
  refine TL.val (Yl.extract rfl rfl) rfl ?_
  refine TL.val (Yl.extract rfl rfl) rfl ?_
  refine TL.val (Yl.assign rfl) rfl ?_
  refine TL.val (Yl.assign rfl) rfl ?_
  refine TL.next ?_
  refine TC.seq ?_
  refine TC.seq ?_
  refine TC.region ?_
  refine TL.val (Yl.move rfl) rfl ?_
  refine TL.val (Yl.neqNilN Tryz.underlying58 rfl rfl) rfl ?_
  refine TL.next ?_
  refine TC.no rfl ?_
  refine TC.skip_next ?_
  refine TC.seq ?_
  refine TC.region ?_
  refine TL.eff (Eff.lits1 [] (vs := []) Tryz.underlying37 sz9 zr9 rfl trivial rfl rfl rfl) rfl fun b37 => ?_
  refine TL.val (Yl.assign rfl) rfl ?_
  refine TL.next ?_
  refine TC.seq ?_
  refine TC.region ?_
  refine TL.val (Yl.move rfl) rfl ?_
  refine TL.quiet (Cll.inv (xs := []) (vs := []) Tryz.func124 rfl (by kernel_rfl) (m56Digest _) rfl trivial) rfl (Quiet.none (digest_q (sumH z) x m z d z.length)) ?_
  refine TL.val (Yl.move rfl) rfl ?_
  refine TL.val (Yl.extract rfl rfl) rfl ?_
  refine TL.val (Yl.extract rfl rfl) rfl ?_
  refine TL.eff (Eff.alloc zr53 rfl) rfl fun b11 => ?_
  refine TL.skp (Skp.storeA (vs := hashV (sumH z)) sz53 rfl rfl rfl (by repeat (first | exact Foc.head | apply Foc.tail | apply Foc.right)) (Nat.le_of_ble_eq_true rfl) rfl) ?_
  refine TL.val (Yl.assign rfl) rfl ?_
  refine TL.next ?_
  refine TC.seq ?_
  refine TC.seq ?_
  refine TC.region ?_
  refine TL.val (Yl.move rfl) rfl ?_
  refine TL.val (Yl.neqNilN Tryz.underlying58 rfl rfl) rfl ?_
  refine TL.next ?_
  refine TC.no rfl ?_
  refine TC.skip_next ?_
  refine TC.seq ?_
  refine TC.region ?_
  refine TL.val (Yl.move rfl) rfl ?_
  refine TL.quiet (Cll.inv (xs := []) (vs := []) Tryz.func123 rfl (by kernel_rfl) (m56DiffID _) rfl trivial) rfl (Quiet.none (diffid_q (sumH z) x m z d z.length)) ?_
  refine TL.val (Yl.move rfl) rfl ?_
  refine TL.val (Yl.extract rfl rfl) rfl ?_
  refine TL.val (Yl.extract rfl rfl) rfl ?_
  refine TL.eff (Eff.alloc zr53 rfl) rfl fun b12 => ?_
  refine TL.skp (Skp.storeA (vs := hashV x) sz53 rfl rfl rfl (by repeat (first | exact Foc.head | apply Foc.tail | apply Foc.right)) (Nat.le_of_ble_eq_true rfl) rfl) ?_
  refine TL.val (Yl.assign rfl) rfl ?_
  refine TL.next ?_
  refine TC.seq ?_
  refine TC.seq ?_
  refine TC.region ?_
  refine TL.val (Yl.move rfl) rfl ?_
  refine TL.val (Yl.neqNilN Tryz.underlying58 rfl rfl) rfl ?_
  refine TL.next ?_
  refine TC.no rfl ?_
  refine TC.skip_next ?_
  refine TC.seq ?_
  refine TC.region ?_
  refine TL.val (Yl.move rfl) rfl ?_
  refine TL.quiet (Cll.inv (xs := []) (vs := []) Tryz.func125 rfl (by kernel_rfl) (m56Size _) rfl trivial) rfl (Quiet.none (size56_q (sumH z) x m z d z.length)) ?_
  refine TL.val (Yl.move rfl) rfl ?_
  refine TL.val (Yl.extract rfl rfl) rfl ?_
  refine TL.val (Yl.extract rfl rfl) rfl ?_
  refine TL.val (Yl.assign rfl) rfl ?_
  refine TL.val (Yl.assign rfl) rfl ?_
  refine TL.next ?_
  refine TC.seq ?_
  refine TC.seq ?_
  refine TC.region ?_
  refine TL.val (Yl.move rfl) rfl ?_
  refine TL.val (Yl.neqNilN Tryz.underlying58 rfl rfl) rfl ?_
  refine TL.next ?_
  refine TC.no rfl ?_
  refine TC.skip_next ?_
  refine TC.seq ?_
  refine TC.seq ?_
  refine TC.draws [] _ mixed (by kernel_rfl) rfl (fun _ h => h) ?_
  refine TA.load 0 rfl (by kernel_rfl) (Yl.loadA (vs := hashV (sumH z)) Tryz.underlying53 rfl sz53 rfl (by repeat (first | exact Foc.head | apply Foc.tail | apply Foc.right)) rfl) rfl ?_
  refine TA.pure 1 rfl (by kernel_rfl) (Yl.move rfl) rfl ?_
  refine TA.pure 2 rfl (by kernel_rfl) (Yl.nilCheckP rfl) rfl ?_
  refine TA.pure 3 rfl (by kernel_rfl) (Yl.fieldAddr (k := 53) (m := 0) (o := 0) Tryz.underlying80 rfl sz53 rfl rfl) rfl ?_
  refine TA.load 4 rfl (by kernel_rfl) (Yl.loadA (vs := hashV (sumH z)) Tryz.underlying53 rfl sz53 rfl (by repeat (first | exact Foc.head | apply Foc.tail | apply Foc.right)) rfl) rfl ?_
  refine TA.pure 5 rfl (by kernel_rfl) (neq53 rfl rfl (decide_eq_false (fun h => h rfl))) rfl ?_
  refine TA.next (by kernel_rfl) ?_
  refine TC.no rfl ?_
  refine TC.skip_next ?_
  refine TC.seq ?_
  refine TC.seq ?_
  refine TC.draws [] _ mixed (by kernel_rfl) rfl (fun _ h => h) ?_
  refine TA.load 0 rfl (by kernel_rfl) (Yl.loadA (vs := hashV x) Tryz.underlying53 rfl sz53 rfl (by repeat (first | exact Foc.head | apply Foc.tail | apply Foc.right)) rfl) rfl ?_
  refine TA.pure 1 rfl (by kernel_rfl) (Yl.move rfl) rfl ?_
  refine TA.pure 2 rfl (by kernel_rfl) (Yl.nilCheckP rfl) rfl ?_
  refine TA.pure 3 rfl (by kernel_rfl) (Yl.fieldAddr (k := 53) (m := 3) (o := 3) Tryz.underlying80 rfl sz53 rfl rfl) rfl ?_
  refine TA.load 4 rfl (by kernel_rfl) (Yl.loadA (vs := hashV (sumH d)) Tryz.underlying53 rfl sz53 rfl (by repeat (first | exact Foc.head | apply Foc.tail | apply Foc.right)) rfl) rfl ?_
  refine TA.pure 5 rfl (by kernel_rfl) (neq53 rfl rfl (decide_eq_true hx)) rfl ?_
  refine TA.next (by kernel_rfl) ?_
  refine TC.yes rfl ?_
  refine TC.region ?_
  refine TL.val (Yl.move rfl) rfl ?_
  refine TL.eff (Eff.lits1 [_] (vs := [vS er2]) Tryz.underlying37 sz9 zr9 rfl ⟨rfl, trivial⟩ rfl rfl rfl) rfl fun b78 => ?_
  refine TL.eff (Eff.app (sz := 1) (bs := 16) (m := 1) (news := [vS er2]) (R := (b78, _) :: (b12, _) :: (b11, _) :: (b8, _) :: eofB ea :: (b5, _) :: Fr) Tryz.underlying37 Tryz.underlying37 (.inl ⟨_, rfl⟩) sz9 by9 zr9 rfl rfl rfl (SlOf.nil2 b37) (fun _ h => Own.mid (A := [_, _, _]) h) (Src.sl (cs := [vS er2]) (K := _) (b := b78) (off := 0) .head rfl) rfl (by intro y hy; rw [List.mem_singleton.1 hy]; rfl) (by omega) (by omega) (by simp only [List.length_cons, List.length_nil]; omega)) rfl fun p => ?_
  obtain ⟨⟨v1, H1⟩, h1⟩ := p
  dsimp only at h1 ⊢
  refine TL.val (Yl.assign rfl) rfl ?_
  refine TL.next ?_
  refine TC.seq ?_
  refine TC.seq ?_
  refine TC.draws [] _ mixed (by kernel_rfl) rfl (fun _ h => h) ?_
  refine TA.load 0 rfl (by kernel_rfl) (Yl.loadA (vs := hashV x) Tryz.underlying53 rfl sz53 rfl (by repeat (first | exact Foc.head | apply Foc.tail | apply Foc.right)) rfl) rfl ?_
  refine TA.pure 1 rfl (by kernel_rfl) (Yl.move rfl) rfl ?_
  refine TA.pure 2 rfl (by kernel_rfl) (Yl.nilCheckP rfl) rfl ?_
  refine TA.pure 3 rfl (by kernel_rfl) (Yl.fieldAddr (k := 53) (m := 5) (o := 5) Tryz.underlying80 rfl sz53 rfl rfl) rfl ?_
  refine TA.load 4 rfl (by kernel_rfl) (Yl.loadA (vs := hashV (sumH d)) Tryz.underlying53 rfl sz53 rfl (by repeat (first | exact Foc.head | apply Foc.tail | apply Foc.right)) rfl) rfl ?_
  refine TA.pure 5 rfl (by kernel_rfl) (neq53 rfl rfl (decide_eq_true hx)) rfl ?_
  refine TA.next (by kernel_rfl) ?_
  refine TC.yes rfl ?_
  refine TC.region ?_
  refine TL.val (Yl.move rfl) rfl ?_
  refine TL.eff (Eff.lits1 [_] (vs := [vS er3]) Tryz.underlying37 sz9 zr9 rfl ⟨rfl, trivial⟩ rfl rfl rfl) rfl fun b87 => ?_
  refine TL.eff (Eff.app (sz := 1) (bs := 16) (m := 1) (news := [vS er3]) (R := (b87, _) :: (b78, _) :: (b12, _) :: (b11, _) :: (b8, _) :: eofB ea :: (b5, _) :: Fr) Tryz.underlying37 Tryz.underlying37 (.inl ⟨_, rfl⟩) sz9 by9 zr9 rfl rfl rfl h1 (fun _ h => Own.mid (A := [_]) h) (Src.sl (cs := [vS er3]) (K := _) (b := b87) (off := 0) .head rfl) rfl (by intro y hy; rw [List.mem_singleton.1 hy]; rfl) (by omega) (by omega) (by simp only [List.length_append, List.length_cons, List.length_nil]; omega)) rfl fun p => ?_
  clear h1
  obtain ⟨⟨v1, H1⟩, h1⟩ := p
  dsimp only at h1 ⊢
  rcases h1 with ⟨_, hh, _⟩ | ⟨be, oe, cn, ce, ccs, rfl, rfl, hcn, hcl, hct⟩
  · simp at hh
  have hcn2 : cn = 2 := by
    have := congrArg List.length hct
    rw [List.length_take, List.length_drop] at this
    simp only [List.length_append, List.length_cons, List.length_nil] at this
    omega
  subst hcn2
  have ha0 : ccs[oe + 0]? = some (vS er2) := by
    have := congrArg (fun y : List Value => y[0]?) hct
    simp only [List.getElem?_take, List.getElem?_drop] at this
    rwa [if_pos (by omega)] at this
  have ha1 : ccs[oe + 1]? = some (vS er3) := by
    have := congrArg (fun y : List Value => y[1]?) hct
    simp only [List.getElem?_take, List.getElem?_drop] at this
    rwa [if_pos (by omega)] at this
  refine TL.val (Yl.assign rfl) rfl ?_
  refine TL.next ?_
  refine TC.seq ?_
  refine TC.seq ?_
  refine TC.region ?_
  refine TL.val (Yl.move rfl) rfl ?_
  refine TL.val (Yl.move rfl) rfl ?_
  refine TL.val (Yl.nilCheckP rfl) rfl ?_
  refine TL.val (Yl.fieldAddr (k := 2) (m := 2) (o := 2) Tryz.underlying80 rfl sz2 rfl rfl) rfl ?_
  refine TL.val (Yl.load1 (v := .int .i64 (z.length : Int)) Tryz.underlying2 rfl rfl (by repeat (first | exact Foc.head | apply Foc.tail | apply Foc.right)) rfl) rfl ?_
  refine TL.val (Yl.neq rfl rfl (decide_eq_false (fun h => h rfl))) rfl ?_
  refine TL.next ?_
  refine TC.no rfl ?_
  refine TC.skip_next ?_
  refine TC.seq ?_
  refine TC.seq ?_
  refine TC.region ?_
  refine TL.val (Yl.move rfl) rfl ?_
  refine TL.val (Yl.lenL Tryz.underlying37 rfl) rfl ?_
  refine TL.val (Yl.neq rfl rfl rfl) rfl ?_
  refine TL.next ?_
  refine TC.yes rfl ?_
  refine TC.seq ?_
  refine TC.region ?_
  refine TL.val (Yl.move rfl) rfl ?_
  refine TL.call (Cll.func (xs := [_, _]) (vs := [_, _]) Tryz.func27 rfl (by kernel_rfl) ⟨rfl, rfl, trivial⟩) rfl (join2_g er2 er3 (by decide) (by decide) ccs be oe ce hcn ha0 ha1 g _) fun _ => ?_
  refine TL.call (Cll.func (xs := [_]) (vs := [_]) Tryz.func25 rfl (by kernel_rfl) ⟨rfl, trivial⟩) rfl (errNew_g (er2 ++ [10] ++ er3) g _) fun bx => ?_
  refine TL.val (Yl.assign rfl) rfl ?_
  refine TL.next ?_
  exact TC.back1 (σ := Nat) bx rfl rfl (fun _ h => h.sub (by repeat (first | exact List.Sublist.refl _ | exact List.sublist_append_right _ _ | refine List.Sublist.cons_cons _ ?_ | refine List.Sublist.append (List.Sublist.refl _) ?_ | refine List.Sublist.cons _ ?_ | refine List.Sublist.trans ?_ (List.sublist_append_right _ _))))
set_option maxHeartbeats 1000000 in
theorem layerN_g (ea : Addr) (m : List UInt8) (es : List TE) (z d r : List UInt8) (c : Nat) (hc : 0 < c) (hcm : c ≤ 60000) (ht : TarOf es d) (hz : z = gzHead ++ r) (hok : GzOk z d c 0 0 10 false false) (hzs : z.length ≤ 1000000000) (g : World) (Fr : HL) : Gives Tryz.prog 19 #[.iface 56 (.agg ⟨saidL (sumH z) (sumH d) (z.length + 1) m z d⟩), .slice none 0 0] g (eofB ea :: Fr) Nat (fun b => .iface 94 (pt b 0)) (fun _ => eofB ea :: Fr) := by
  refine Gives.enter Tryz.func19 rfl Tryz.ntmps19 rfl ?_
  refine TC.seq ?_
  refine TC.region ?_
  refine TL.val (Yl.assign rfl) rfl ?_
  refine TL.next ?_
  refine TC.seq ?_
  refine TC.region ?_
  refine TL.val (Yl.move rfl) rfl ?_
  refine TL.call (Cll.func (xs := [_]) (vs := [_]) Tryz.func23 rfl (by kernel_rfl) ⟨rfl, trivial⟩) rfl (makeOpts_g g _) fun _ => ?_
  refine TL.eff (Eff.alloc zr67 rfl) rfl fun b5 => ?_
  refine TL.skp (Skp.storeA (vs := [.bool false]) sz67 rfl rfl rfl (by repeat (first | exact Foc.head | apply Foc.tail | apply Foc.right)) (Nat.le_of_ble_eq_true rfl) rfl) ?_
  refine TL.next ?_
  refine TC.seq ?_
  refine TC.seq ?_
  refine TC.region ?_
  refine TL.val (Yl.fieldAddr (k := 4) (m := 0) (o := 0) Tryz.underlying67 rfl sz4 rfl rfl) rfl ?_
  refine TL.val (Yl.load1 (v := .bool false) Tryz.underlying4 rfl rfl (by repeat (first | exact Foc.head | apply Foc.tail | apply Foc.right)) rfl) rfl ?_
  refine TL.next ?_
  refine TC.no rfl ?_
  refine TC.skip_next ?_
  refine TC.seq ?_
  refine TC.region ?_
  refine TL.val (Yl.move rfl) rfl ?_
  refine TL.call (Cll.func (xs := [_]) (vs := [_]) Tryz.func26 rfl (by kernel_rfl) ⟨rfl, trivial⟩) rfl (Gives.of (fun _ h => h.perm (List.Perm.swap _ _ _)) (compute_g ea (sumH z) (sumH d) m (z.length + 1) es z d r c hc hcm ht hz hok hzs g ((b5, _) :: Fr))) fun b8 => ?_
  refine TL.val (Yl.move rfl) rfl ?_
  refine TL.val (Yl.extract rfl rfl) rfl ?_
  refine TL.val (Yl.extract rfl rfl) rfl ?_
  refine TL.val (Yl.assign rfl) rfl ?_
  refine TL.val (Yl.assign rfl) rfl ?_
  refine TL.next ?_
  refine TC.seq ?_
  refine TC.seq ?_
  refine TC.region ?_
  refine TL.val (Yl.move rfl) rfl ?_
  refine TL.val (Yl.neqNilN Tryz.underlying58 rfl rfl) rfl ?_
  refine TL.next ?_
  refine TC.no rfl ?_
  refine TC.skip_next ?_
  refine TC.seq ?_
  refine TC.region ?_
  refine TL.eff (Eff.lits1 [] (vs := []) Tryz.underlying37 sz9 zr9 rfl trivial rfl rfl rfl) rfl fun b37 => ?_
  refine TL.val (Yl.assign rfl) rfl ?_
  refine TL.next ?_
  refine TC.seq ?_
  refine TC.region ?_
  refine TL.val (Yl.move rfl) rfl ?_
  refine TL.quiet (Cll.inv (xs := []) (vs := []) Tryz.func124 rfl (by kernel_rfl) (m56Digest _) rfl trivial) rfl (Quiet.none (digest_q (sumH z) (sumH d) m z d (z.length + 1))) ?_
  refine TL.val (Yl.move rfl) rfl ?_
  refine TL.val (Yl.extract rfl rfl) rfl ?_
  refine TL.val (Yl.extract rfl rfl) rfl ?_
  refine TL.eff (Eff.alloc zr53 rfl) rfl fun b11 => ?_
  refine TL.skp (Skp.storeA (vs := hashV (sumH z)) sz53 rfl rfl rfl (by repeat (first | exact Foc.head | apply Foc.tail | apply Foc.right)) (Nat.le_of_ble_eq_true rfl) rfl) ?_
  refine TL.val (Yl.assign rfl) rfl ?_
  refine TL.next ?_
  refine TC.seq ?_
  refine TC.seq ?_
  refine TC.region ?_
  refine TL.val (Yl.move rfl) rfl ?_
  refine TL.val (Yl.neqNilN Tryz.underlying58 rfl rfl) rfl ?_
  refine TL.next ?_
  refine TC.no rfl ?_
  refine TC.skip_next ?_
  refine TC.seq ?_
  refine TC.region ?_
  refine TL.val (Yl.move rfl) rfl ?_
  refine TL.quiet (Cll.inv (xs := []) (vs := []) Tryz.func123 rfl (by kernel_rfl) (m56DiffID _) rfl trivial) rfl (Quiet.none (diffid_q (sumH z) (sumH d) m z d (z.length + 1))) ?_
  refine TL.val (Yl.move rfl) rfl ?_
  refine TL.val (Yl.extract rfl rfl) rfl ?_
  refine TL.val (Yl.extract rfl rfl) rfl ?_
  refine TL.eff (Eff.alloc zr53 rfl) rfl fun b12 => ?_
  refine TL.skp (Skp.storeA (vs := hashV (sumH d)) sz53 rfl rfl rfl (by repeat (first | exact Foc.head | apply Foc.tail | apply Foc.right)) (Nat.le_of_ble_eq_true rfl) rfl) ?_
  refine TL.val (Yl.assign rfl) rfl ?_
  refine TL.next ?_
  refine TC.seq ?_
  refine TC.seq ?_
  refine TC.region ?_
  refine TL.val (Yl.move rfl) rfl ?_
  refine TL.val (Yl.neqNilN Tryz.underlying58 rfl rfl) rfl ?_
  refine TL.next ?_
  refine TC.no rfl ?_
  refine TC.skip_next ?_
  refine TC.seq ?_
  refine TC.region ?_
  refine TL.val (Yl.move rfl) rfl ?_
  refine TL.quiet (Cll.inv (xs := []) (vs := []) Tryz.func125 rfl (by kernel_rfl) (m56Size _) rfl trivial) rfl (Quiet.none (size56_q (sumH z) (sumH d) m z d (z.length + 1))) ?_
  refine TL.val (Yl.move rfl) rfl ?_
  refine TL.val (Yl.extract rfl rfl) rfl ?_
  refine TL.val (Yl.extract rfl rfl) rfl ?_
  refine TL.val (Yl.assign rfl) rfl ?_
  refine TL.val (Yl.assign rfl) rfl ?_
  refine TL.next ?_
  refine TC.seq ?_
  refine TC.seq ?_
  refine TC.region ?_
  refine TL.val (Yl.move rfl) rfl ?_
  refine TL.val (Yl.neqNilN Tryz.underlying58 rfl rfl) rfl ?_
  refine TL.next ?_
  refine TC.no rfl ?_
  refine TC.skip_next ?_
  refine TC.seq ?_
  refine TC.seq ?_
  refine TC.draws [] _ mixed (by kernel_rfl) rfl (fun _ h => h) ?_
  refine TA.load 0 rfl (by kernel_rfl) (Yl.loadA (vs := hashV (sumH z)) Tryz.underlying53 rfl sz53 rfl (by repeat (first | exact Foc.head | apply Foc.tail | apply Foc.right)) rfl) rfl ?_
  refine TA.pure 1 rfl (by kernel_rfl) (Yl.move rfl) rfl ?_
  refine TA.pure 2 rfl (by kernel_rfl) (Yl.nilCheckP rfl) rfl ?_
  refine TA.pure 3 rfl (by kernel_rfl) (Yl.fieldAddr (k := 53) (m := 0) (o := 0) Tryz.underlying80 rfl sz53 rfl rfl) rfl ?_
  refine TA.load 4 rfl (by kernel_rfl) (Yl.loadA (vs := hashV (sumH z)) Tryz.underlying53 rfl sz53 rfl (by repeat (first | exact Foc.head | apply Foc.tail | apply Foc.right)) rfl) rfl ?_
  refine TA.pure 5 rfl (by kernel_rfl) (neq53 rfl rfl (decide_eq_false (fun h => h rfl))) rfl ?_
  refine TA.next (by kernel_rfl) ?_
  refine TC.no rfl ?_
  refine TC.skip_next ?_
  refine TC.seq ?_
  refine TC.seq ?_
  refine TC.draws [] _ mixed (by kernel_rfl) rfl (fun _ h => h) ?_
  refine TA.load 0 rfl (by kernel_rfl) (Yl.loadA (vs := hashV (sumH d)) Tryz.underlying53 rfl sz53 rfl (by repeat (first | exact Foc.head | apply Foc.tail | apply Foc.right)) rfl) rfl ?_
  refine TA.pure 1 rfl (by kernel_rfl) (Yl.move rfl) rfl ?_
  refine TA.pure 2 rfl (by kernel_rfl) (Yl.nilCheckP rfl) rfl ?_
  refine TA.pure 3 rfl (by kernel_rfl) (Yl.fieldAddr (k := 53) (m := 3) (o := 3) Tryz.underlying80 rfl sz53 rfl rfl) rfl ?_
  refine TA.load 4 rfl (by kernel_rfl) (Yl.loadA (vs := hashV (sumH d)) Tryz.underlying53 rfl sz53 rfl (by repeat (first | exact Foc.head | apply Foc.tail | apply Foc.right)) rfl) rfl ?_
  refine TA.pure 5 rfl (by kernel_rfl) (neq53 rfl rfl (decide_eq_false (fun h => h rfl))) rfl ?_
  refine TA.next (by kernel_rfl) ?_
  refine TC.no rfl ?_
  refine TC.skip_next ?_
  refine TC.seq ?_
  refine TC.seq ?_
  refine TC.draws [] _ mixed (by kernel_rfl) rfl (fun _ h => h) ?_
  refine TA.load 0 rfl (by kernel_rfl) (Yl.loadA (vs := hashV (sumH d)) Tryz.underlying53 rfl sz53 rfl (by repeat (first | exact Foc.head | apply Foc.tail | apply Foc.right)) rfl) rfl ?_
  refine TA.pure 1 rfl (by kernel_rfl) (Yl.move rfl) rfl ?_
  refine TA.pure 2 rfl (by kernel_rfl) (Yl.nilCheckP rfl) rfl ?_
  refine TA.pure 3 rfl (by kernel_rfl) (Yl.fieldAddr (k := 53) (m := 5) (o := 5) Tryz.underlying80 rfl sz53 rfl rfl) rfl ?_
  refine TA.load 4 rfl (by kernel_rfl) (Yl.loadA (vs := hashV (sumH d)) Tryz.underlying53 rfl sz53 rfl (by repeat (first | exact Foc.head | apply Foc.tail | apply Foc.right)) rfl) rfl ?_
  refine TA.pure 5 rfl (by kernel_rfl) (neq53 rfl rfl (decide_eq_false (fun h => h rfl))) rfl ?_
  refine TA.next (by kernel_rfl) ?_
  refine TC.no rfl ?_
  refine TC.skip_next ?_
  refine TC.seq ?_
  refine TC.seq ?_
  refine TC.region ?_
  refine TL.val (Yl.move rfl) rfl ?_
  refine TL.val (Yl.move rfl) rfl ?_
  refine TL.val (Yl.nilCheckP rfl) rfl ?_
  refine TL.val (Yl.fieldAddr (k := 2) (m := 2) (o := 2) Tryz.underlying80 rfl sz2 rfl rfl) rfl ?_
  refine TL.val (Yl.load1 (v := .int .i64 (z.length : Int)) Tryz.underlying2 rfl rfl (by repeat (first | exact Foc.head | apply Foc.tail | apply Foc.right)) rfl) rfl ?_
  refine TL.val (Yl.neq rfl rfl (decide_eq_true (by show ((z.length + 1 : Nat) : Int) ≠ (z.length : Int); omega))) rfl ?_
  refine TL.next ?_
  refine TC.yes rfl ?_
  refine TC.region ?_
  refine TL.val (Yl.move rfl) rfl ?_
  refine TL.eff (Eff.lits1 [_] (vs := [vS er4]) Tryz.underlying37 sz9 zr9 rfl ⟨rfl, trivial⟩ rfl rfl rfl) rfl fun b96 => ?_
  refine TL.eff (Eff.app (sz := 1) (bs := 16) (m := 1) (news := [vS er4]) (R := (b96, _) :: (b12, _) :: (b11, _) :: (b8, _) :: eofB ea :: (b5, _) :: Fr) Tryz.underlying37 Tryz.underlying37 (.inl ⟨_, rfl⟩) sz9 by9 zr9 rfl rfl rfl (SlOf.nil2 b37) (fun _ h => Own.mid (A := [_, _, _]) h) (Src.sl (cs := [vS er4]) (K := _) (b := b96) (off := 0) .head rfl) rfl (by intro y hy; rw [List.mem_singleton.1 hy]; rfl) (by omega) (by omega) (by simp only [List.length_cons, List.length_nil]; omega)) rfl fun p => ?_
  obtain ⟨⟨v1, H1⟩, h1⟩ := p
  dsimp only at h1 ⊢
  rcases h1 with ⟨_, hh, _⟩ | ⟨be, oe, cn, ce, ccs, rfl, rfl, hcn, hcl, hct⟩
  · simp at hh
  have hcn2 : cn = 1 := by
    have := congrArg List.length hct
    rw [List.length_take, List.length_drop] at this
    simp only [List.length_append, List.length_cons, List.length_nil] at this
    omega
  subst hcn2
  have ha0 : ccs[oe + 0]? = some (vS er4) := by
    have := congrArg (fun y : List Value => y[0]?) hct
    simp only [List.getElem?_take, List.getElem?_drop] at this
    rwa [if_pos (by omega)] at this
  refine TL.val (Yl.assign rfl) rfl ?_
  refine TL.next ?_
  refine TC.seq ?_
  refine TC.seq ?_
  refine TC.region ?_
  refine TL.val (Yl.move rfl) rfl ?_
  refine TL.val (Yl.lenL Tryz.underlying37 rfl) rfl ?_
  refine TL.val (Yl.neq rfl rfl rfl) rfl ?_
  refine TL.next ?_
  refine TC.yes rfl ?_
  refine TC.seq ?_
  refine TC.region ?_
  refine TL.val (Yl.move rfl) rfl ?_
  refine TL.quiet (Cll.func (xs := [_, _]) (vs := [_, _]) Tryz.func27 rfl (by kernel_rfl) ⟨rfl, rfl, trivial⟩) rfl (fun g w ho => join1_q er4 _ ccs be oe ce ha0 g w (ho.sub (List.sublist_append_left [_] _))) ?_
  refine TL.call (Cll.func (xs := [_]) (vs := [_]) Tryz.func25 rfl (by kernel_rfl) ⟨rfl, trivial⟩) rfl (errNew_g er4 g _) fun bx => ?_
  refine TL.val (Yl.assign rfl) rfl ?_
  refine TL.next ?_
  exact TC.back1 (σ := Nat) bx rfl rfl (fun _ h => h.sub (by repeat (first | exact List.Sublist.refl _ | exact List.sublist_append_right _ _ | refine List.Sublist.cons_cons _ ?_ | refine List.Sublist.append (List.Sublist.refl _) ?_ | refine List.Sublist.cons _ ?_ | refine List.Sublist.trans ?_ (List.sublist_append_right _ _))))
end Go.Proofs.YtlhncphipfkkjaaGreatDoor

namespace Go.Proofs.YtlhncphipfkkjaaGreatDoor
open Go
theorem perm4b {a b c e : Nat × Obj} {F : HL} : (a :: b :: c :: ([e] ++ F)).Perm (e :: a :: b :: c :: F) := (List.perm_append_comm (l₁ := [a, b, c]) (l₂ := [e])).append_right F
theorem lvFast_q (dg df m z d : List UInt8) (n : Nat) : Quiet Tryz.prog 9 #[.agg ⟨hashV dg⟩, .agg ⟨hashV df⟩, .int .i64 (n : Int), vS m, vS z, vS d, .bool true] [] (.bool true) := by
  refine Quiet.of_gives fun g Fr => ?_
  refine Gives.enter Tryz.func9 rfl Tryz.ntmps9 rfl ?_
  refine TC.seq ?_
  refine TC.region ?_
  refine TL.eff (Eff.box (v := .agg ⟨hashV dg⟩) rfl rfl) rfl fun b7 => ?_
  refine TL.eff (Eff.box (v := .agg ⟨hashV df⟩) rfl rfl) rfl fun b8 => ?_
  refine TL.val (Yl.assign rfl) rfl ?_
  refine TL.next ?_
  refine TC.seq ?_
  refine TC.draws [10] _ mixed (by kernel_rfl) rfl (fun _ h => h) ?_
  refine TA.load 0 rfl (by kernel_rfl) (Yl.loadA (vs := hashV dg) Tryz.underlying29 rfl sz29 rfl (by repeat (first | exact Foc.head | apply Foc.tail | apply Foc.right)) rfl) rfl ?_
  refine TA.quiet 1 rfl (by kernel_rfl) (Cll.func (xs := [_]) (vs := [_]) Tryz.func18 rfl (by kernel_rfl) ⟨rfl, trivial⟩) rfl (Quiet.none (hashTo_q algB dg)) ?_
  refine TA.load 2 rfl (by kernel_rfl) (Yl.loadA (vs := hashV df) Tryz.underlying29 rfl sz29 rfl (by repeat (first | exact Foc.head | apply Foc.tail | apply Foc.right)) rfl) rfl ?_
  refine TA.quiet 3 rfl (by kernel_rfl) (Cll.func (xs := [_]) (vs := [_]) Tryz.func18 rfl (by kernel_rfl) ⟨rfl, trivial⟩) rfl (Quiet.none (hashTo_q algB df)) ?_
  refine TA.pure 4 rfl (by kernel_rfl) (Yl.move rfl) rfl ?_
  refine TA.pure 5 rfl (by kernel_rfl) (Yl.move rfl) rfl ?_
  refine TA.pure 6 rfl (by kernel_rfl) (Yl.move rfl) rfl ?_
  refine TA.pure 7 rfl (by kernel_rfl) (Yl.move rfl) rfl ?_
  refine TA.pure 8 rfl (by kernel_rfl) (Yl.build (ixs := [0, 1, 2, 3, 4, 5]) (vs := [.agg ⟨hashV dg⟩, .agg ⟨hashV df⟩, .int .i64 (n : Nat), vS m, vS z, vS d]) (rs := saidL dg df n m z d) [_, _, _, _, _, _] st56 rfl ⟨rfl, rfl, rfl, rfl, rfl, rfl, trivial⟩ rfl) rfl ?_
  refine TA.one 9 (by kernel_rfl) ?_
  refine Up.eff rfl rfl (Eff.alloc zr56 rfl) rfl (fun _ => .inr (fun _ h => h.sub (by repeat (first | exact List.Sublist.refl _ | exact List.sublist_append_right _ _ | refine List.Sublist.cons_cons _ ?_ | refine List.Sublist.append (List.Sublist.refl _) ?_ | refine List.Sublist.cons _ ?_ | refine List.Sublist.trans ?_ (List.sublist_append_right _ _))))) fun b15 => ?_
  refine TA.one 10 (by kernel_rfl) ?_
  refine Up.skp rfl rfl (Skp.storeA (vs := saidL dg df n m z d) sz56 rfl rfl rfl (by repeat (first | exact Foc.head | apply Foc.tail | apply Foc.right)) (Nat.le_of_ble_eq_true rfl) rfl) (.inl rfl) ?_
  refine TA.next (by kernel_rfl) ?_
  refine TC.seq ?_
  refine TC.seq ?_
  refine TC.region ?_
  refine TL.val (Yl.move rfl) rfl ?_
  refine TL.next ?_
  refine TC.yes rfl ?_
  refine TC.seq ?_
  refine TC.region ?_
  refine TL.val (Yl.loadA (vs := saidL dg df n m z d) Tryz.underlying56 rfl sz56 rfl (by repeat (first | exact Foc.head | apply Foc.tail | apply Foc.right)) rfl) rfl ?_
  refine TL.val (Yl.iface Tryz.underlying56 rfl rfl) rfl ?_
  refine TL.eff (Eff.lits1 [_] (vs := [.func (.func 20) #[] #[]]) Tryz.underlying65 sz83 zr83 rfl ⟨rfl, trivial⟩ rfl rfl rfl) rfl fun b28 => ?_
  refine TL.call (Cll.func (xs := [_, _]) (vs := [_, _]) Tryz.func19 rfl (by kernel_rfl) ⟨rfl, rfl, trivial⟩) rfl (layerFast_g dg df m z d n b28 g _) fun _ => ?_
  refine TL.val (Yl.eqlNilN Tryz.underlying58 rfl rfl) rfl ?_
  refine TL.val (Yl.assign rfl) rfl ?_
  refine TL.next ?_
  exact TC.back1 () rfl rfl (fun _ h => h.sub (by repeat (first | exact List.Sublist.refl _ | exact List.sublist_append_right _ _ | refine List.Sublist.cons_cons _ ?_ | refine List.Sublist.append (List.Sublist.refl _) ?_ | refine List.Sublist.cons _ ?_ | refine List.Sublist.trans ?_ (List.sublist_append_right _ _))))
theorem lvOk_q (ea : Addr) (m : List UInt8) (es : List TE) (z d r : List UInt8) (c : Nat) (hc : 0 < c) (hcm : c ≤ 60000) (ht : TarOf es d) (hz : z = gzHead ++ r) (hok : GzOk z d c 0 0 10 false false) (hzs : z.length ≤ 1000000000) : Quiet Tryz.prog 9 #[.agg ⟨hashV (sumH z)⟩, .agg ⟨hashV (sumH d)⟩, .int .i64 (z.length : Nat), vS m, vS z, vS d, .bool false] [eofB ea] (.bool true) := by
  refine Quiet.of_gives fun g Fr => ?_
  refine Gives.enter Tryz.func9 rfl Tryz.ntmps9 rfl ?_
  refine TC.seq ?_
  refine TC.region ?_
  refine TL.eff (Eff.box (v := .agg ⟨hashV (sumH z)⟩) rfl rfl) rfl fun b7 => ?_
  refine TL.eff (Eff.box (v := .agg ⟨hashV (sumH d)⟩) rfl rfl) rfl fun b8 => ?_
  refine TL.val (Yl.assign rfl) rfl ?_
  refine TL.next ?_
  refine TC.seq ?_
  refine TC.draws [10] _ mixed (by kernel_rfl) rfl (fun _ h => h) ?_
  refine TA.load 0 rfl (by kernel_rfl) (Yl.loadA (vs := hashV (sumH z)) Tryz.underlying29 rfl sz29 rfl (by repeat (first | exact Foc.head | apply Foc.tail | apply Foc.right)) rfl) rfl ?_
  refine TA.quiet 1 rfl (by kernel_rfl) (Cll.func (xs := [_]) (vs := [_]) Tryz.func18 rfl (by kernel_rfl) ⟨rfl, trivial⟩) rfl (Quiet.none (hashTo_q algB (sumH z))) ?_
  refine TA.load 2 rfl (by kernel_rfl) (Yl.loadA (vs := hashV (sumH d)) Tryz.underlying29 rfl sz29 rfl (by repeat (first | exact Foc.head | apply Foc.tail | apply Foc.right)) rfl) rfl ?_
  refine TA.quiet 3 rfl (by kernel_rfl) (Cll.func (xs := [_]) (vs := [_]) Tryz.func18 rfl (by kernel_rfl) ⟨rfl, trivial⟩) rfl (Quiet.none (hashTo_q algB (sumH d))) ?_
  refine TA.pure 4 rfl (by kernel_rfl) (Yl.move rfl) rfl ?_
  refine TA.pure 5 rfl (by kernel_rfl) (Yl.move rfl) rfl ?_
  refine TA.pure 6 rfl (by kernel_rfl) (Yl.move rfl) rfl ?_
  refine TA.pure 7 rfl (by kernel_rfl) (Yl.move rfl) rfl ?_
  refine TA.pure 8 rfl (by kernel_rfl) (Yl.build (ixs := [0, 1, 2, 3, 4, 5]) (vs := [.agg ⟨hashV (sumH z)⟩, .agg ⟨hashV (sumH d)⟩, .int .i64 (z.length : Nat), vS m, vS z, vS d]) (rs := saidL (sumH z) (sumH d) z.length m z d) [_, _, _, _, _, _] st56 rfl ⟨rfl, rfl, rfl, rfl, rfl, rfl, trivial⟩ rfl) rfl ?_
  refine TA.one 9 (by kernel_rfl) ?_
  refine Up.eff rfl rfl (Eff.alloc zr56 rfl) rfl (fun _ => .inr (fun _ h => h.sub (by repeat (first | exact List.Sublist.refl _ | exact List.sublist_append_right _ _ | refine List.Sublist.cons_cons _ ?_ | refine List.Sublist.append (List.Sublist.refl _) ?_ | refine List.Sublist.cons _ ?_ | refine List.Sublist.trans ?_ (List.sublist_append_right _ _))))) fun b15 => ?_
  refine TA.one 10 (by kernel_rfl) ?_
  refine Up.skp rfl rfl (Skp.storeA (vs := saidL (sumH z) (sumH d) z.length m z d) sz56 rfl rfl rfl (by repeat (first | exact Foc.head | apply Foc.tail | apply Foc.right)) (Nat.le_of_ble_eq_true rfl) rfl) (.inl rfl) ?_
  refine TA.next (by kernel_rfl) ?_
  refine TC.seq ?_
  refine TC.seq ?_
  refine TC.region ?_
  refine TL.val (Yl.move rfl) rfl ?_
  refine TL.next ?_
  refine TC.no rfl ?_
  refine TC.skip_next ?_
  refine TC.seq ?_
  refine TC.region ?_
  refine TL.val (Yl.loadA (vs := saidL (sumH z) (sumH d) z.length m z d) Tryz.underlying56 rfl sz56 rfl (by repeat (first | exact Foc.head | apply Foc.tail | apply Foc.right)) rfl) rfl ?_
  refine TL.val (Yl.iface Tryz.underlying56 rfl rfl) rfl ?_
  refine TL.call (Cll.func (xs := [_, _]) (vs := [_, _]) Tryz.func19 rfl (by kernel_rfl) ⟨rfl, rfl, trivial⟩) rfl (Gives.of (fun _ h => h.perm perm4b) (layerOk_g ea m es z d r c hc hcm ht hz hok hzs g _)) fun bz => ?_
  refine TL.val (Yl.eqlNilN Tryz.underlying58 rfl rfl) rfl ?_
  refine TL.val (Yl.assign rfl) rfl ?_
  refine TL.next ?_
  exact TC.back1 () rfl rfl (fun _ h => h.sub (by repeat (first | exact List.Sublist.refl _ | exact List.sublist_append_right _ _ | refine List.Sublist.cons_cons _ ?_ | refine List.Sublist.append (List.Sublist.refl _) ?_ | refine List.Sublist.cons _ ?_ | refine List.Sublist.trans ?_ (List.sublist_append_right _ _))))
theorem lvDg_q (ea : Addr) (m : List UInt8) (es : List TE) (z d r : List UInt8) (c : Nat) (hc : 0 < c) (hcm : c ≤ 60000) (ht : TarOf es d) (hz : z = gzHead ++ r) (hok : GzOk z d c 0 0 10 false false) (hzs : z.length ≤ 1000000000) (x : List UInt8) (hx : x ≠ sumH z) : Quiet Tryz.prog 9 #[.agg ⟨hashV x⟩, .agg ⟨hashV (sumH d)⟩, .int .i64 (z.length : Nat), vS m, vS z, vS d, .bool false] [eofB ea] (.bool false) := by
  refine Quiet.of_gives fun g Fr => ?_
  refine Gives.enter Tryz.func9 rfl Tryz.ntmps9 rfl ?_
  refine TC.seq ?_
  refine TC.region ?_
  refine TL.eff (Eff.box (v := .agg ⟨hashV x⟩) rfl rfl) rfl fun b7 => ?_
  refine TL.eff (Eff.box (v := .agg ⟨hashV (sumH d)⟩) rfl rfl) rfl fun b8 => ?_
  refine TL.val (Yl.assign rfl) rfl ?_
  refine TL.next ?_
  refine TC.seq ?_
  refine TC.draws [10] _ mixed (by kernel_rfl) rfl (fun _ h => h) ?_
  refine TA.load 0 rfl (by kernel_rfl) (Yl.loadA (vs := hashV x) Tryz.underlying29 rfl sz29 rfl (by repeat (first | exact Foc.head | apply Foc.tail | apply Foc.right)) rfl) rfl ?_
  refine TA.quiet 1 rfl (by kernel_rfl) (Cll.func (xs := [_]) (vs := [_]) Tryz.func18 rfl (by kernel_rfl) ⟨rfl, trivial⟩) rfl (Quiet.none (hashTo_q algB x)) ?_
  refine TA.load 2 rfl (by kernel_rfl) (Yl.loadA (vs := hashV (sumH d)) Tryz.underlying29 rfl sz29 rfl (by repeat (first | exact Foc.head | apply Foc.tail | apply Foc.right)) rfl) rfl ?_
  refine TA.quiet 3 rfl (by kernel_rfl) (Cll.func (xs := [_]) (vs := [_]) Tryz.func18 rfl (by kernel_rfl) ⟨rfl, trivial⟩) rfl (Quiet.none (hashTo_q algB (sumH d))) ?_
  refine TA.pure 4 rfl (by kernel_rfl) (Yl.move rfl) rfl ?_
  refine TA.pure 5 rfl (by kernel_rfl) (Yl.move rfl) rfl ?_
  refine TA.pure 6 rfl (by kernel_rfl) (Yl.move rfl) rfl ?_
  refine TA.pure 7 rfl (by kernel_rfl) (Yl.move rfl) rfl ?_
  refine TA.pure 8 rfl (by kernel_rfl) (Yl.build (ixs := [0, 1, 2, 3, 4, 5]) (vs := [.agg ⟨hashV x⟩, .agg ⟨hashV (sumH d)⟩, .int .i64 (z.length : Nat), vS m, vS z, vS d]) (rs := saidL x (sumH d) z.length m z d) [_, _, _, _, _, _] st56 rfl ⟨rfl, rfl, rfl, rfl, rfl, rfl, trivial⟩ rfl) rfl ?_
  refine TA.one 9 (by kernel_rfl) ?_
  refine Up.eff rfl rfl (Eff.alloc zr56 rfl) rfl (fun _ => .inr (fun _ h => h.sub (by repeat (first | exact List.Sublist.refl _ | exact List.sublist_append_right _ _ | refine List.Sublist.cons_cons _ ?_ | refine List.Sublist.append (List.Sublist.refl _) ?_ | refine List.Sublist.cons _ ?_ | refine List.Sublist.trans ?_ (List.sublist_append_right _ _))))) fun b15 => ?_
  refine TA.one 10 (by kernel_rfl) ?_
  refine Up.skp rfl rfl (Skp.storeA (vs := saidL x (sumH d) z.length m z d) sz56 rfl rfl rfl (by repeat (first | exact Foc.head | apply Foc.tail | apply Foc.right)) (Nat.le_of_ble_eq_true rfl) rfl) (.inl rfl) ?_
  refine TA.next (by kernel_rfl) ?_
  refine TC.seq ?_
  refine TC.seq ?_
  refine TC.region ?_
  refine TL.val (Yl.move rfl) rfl ?_
  refine TL.next ?_
  refine TC.no rfl ?_
  refine TC.skip_next ?_
  refine TC.seq ?_
  refine TC.region ?_
  refine TL.val (Yl.loadA (vs := saidL x (sumH d) z.length m z d) Tryz.underlying56 rfl sz56 rfl (by repeat (first | exact Foc.head | apply Foc.tail | apply Foc.right)) rfl) rfl ?_
  refine TL.val (Yl.iface Tryz.underlying56 rfl rfl) rfl ?_
  refine TL.call (Cll.func (xs := [_, _]) (vs := [_, _]) Tryz.func19 rfl (by kernel_rfl) ⟨rfl, rfl, trivial⟩) rfl (Gives.of (fun _ h => h.perm perm4b) (layerDg_g ea m es z d r c hc hcm ht hz hok hzs x hx g _)) fun bz => ?_
  refine TL.val (Yl.eqlNilI Tryz.underlying58 rfl rfl) rfl ?_
  refine TL.val (Yl.assign rfl) rfl ?_
  refine TL.next ?_
  exact TC.back1 () rfl rfl (fun _ h => h.sub (by repeat (first | exact List.Sublist.refl _ | exact List.sublist_append_right _ _ | refine List.Sublist.cons_cons _ ?_ | refine List.Sublist.append (List.Sublist.refl _) ?_ | refine List.Sublist.cons _ ?_ | refine List.Sublist.trans ?_ (List.sublist_append_right _ _))))
theorem lvDf_q (ea : Addr) (m : List UInt8) (es : List TE) (z d r : List UInt8) (c : Nat) (hc : 0 < c) (hcm : c ≤ 60000) (ht : TarOf es d) (hz : z = gzHead ++ r) (hok : GzOk z d c 0 0 10 false false) (hzs : z.length ≤ 1000000000) (x : List UInt8) (hx : x ≠ sumH d) : Quiet Tryz.prog 9 #[.agg ⟨hashV (sumH z)⟩, .agg ⟨hashV x⟩, .int .i64 (z.length : Nat), vS m, vS z, vS d, .bool false] [eofB ea] (.bool false) := by
  refine Quiet.of_gives fun g Fr => ?_
  refine Gives.enter Tryz.func9 rfl Tryz.ntmps9 rfl ?_
  refine TC.seq ?_
  refine TC.region ?_
  refine TL.eff (Eff.box (v := .agg ⟨hashV (sumH z)⟩) rfl rfl) rfl fun b7 => ?_
  refine TL.eff (Eff.box (v := .agg ⟨hashV x⟩) rfl rfl) rfl fun b8 => ?_
  refine TL.val (Yl.assign rfl) rfl ?_
  refine TL.next ?_
  refine TC.seq ?_
  refine TC.draws [10] _ mixed (by kernel_rfl) rfl (fun _ h => h) ?_
  refine TA.load 0 rfl (by kernel_rfl) (Yl.loadA (vs := hashV (sumH z)) Tryz.underlying29 rfl sz29 rfl (by repeat (first | exact Foc.head | apply Foc.tail | apply Foc.right)) rfl) rfl ?_
  refine TA.quiet 1 rfl (by kernel_rfl) (Cll.func (xs := [_]) (vs := [_]) Tryz.func18 rfl (by kernel_rfl) ⟨rfl, trivial⟩) rfl (Quiet.none (hashTo_q algB (sumH z))) ?_
  refine TA.load 2 rfl (by kernel_rfl) (Yl.loadA (vs := hashV x) Tryz.underlying29 rfl sz29 rfl (by repeat (first | exact Foc.head | apply Foc.tail | apply Foc.right)) rfl) rfl ?_
  refine TA.quiet 3 rfl (by kernel_rfl) (Cll.func (xs := [_]) (vs := [_]) Tryz.func18 rfl (by kernel_rfl) ⟨rfl, trivial⟩) rfl (Quiet.none (hashTo_q algB x)) ?_
  refine TA.pure 4 rfl (by kernel_rfl) (Yl.move rfl) rfl ?_
  refine TA.pure 5 rfl (by kernel_rfl) (Yl.move rfl) rfl ?_
  refine TA.pure 6 rfl (by kernel_rfl) (Yl.move rfl) rfl ?_
  refine TA.pure 7 rfl (by kernel_rfl) (Yl.move rfl) rfl ?_
  refine TA.pure 8 rfl (by kernel_rfl) (Yl.build (ixs := [0, 1, 2, 3, 4, 5]) (vs := [.agg ⟨hashV (sumH z)⟩, .agg ⟨hashV x⟩, .int .i64 (z.length : Nat), vS m, vS z, vS d]) (rs := saidL (sumH z) x z.length m z d) [_, _, _, _, _, _] st56 rfl ⟨rfl, rfl, rfl, rfl, rfl, rfl, trivial⟩ rfl) rfl ?_
  refine TA.one 9 (by kernel_rfl) ?_
  refine Up.eff rfl rfl (Eff.alloc zr56 rfl) rfl (fun _ => .inr (fun _ h => h.sub (by repeat (first | exact List.Sublist.refl _ | exact List.sublist_append_right _ _ | refine List.Sublist.cons_cons _ ?_ | refine List.Sublist.append (List.Sublist.refl _) ?_ | refine List.Sublist.cons _ ?_ | refine List.Sublist.trans ?_ (List.sublist_append_right _ _))))) fun b15 => ?_
  refine TA.one 10 (by kernel_rfl) ?_
  refine Up.skp rfl rfl (Skp.storeA (vs := saidL (sumH z) x z.length m z d) sz56 rfl rfl rfl (by repeat (first | exact Foc.head | apply Foc.tail | apply Foc.right)) (Nat.le_of_ble_eq_true rfl) rfl) (.inl rfl) ?_
  refine TA.next (by kernel_rfl) ?_
  refine TC.seq ?_
  refine TC.seq ?_
  refine TC.region ?_
  refine TL.val (Yl.move rfl) rfl ?_
  refine TL.next ?_
  refine TC.no rfl ?_
  refine TC.skip_next ?_
  refine TC.seq ?_
  refine TC.region ?_
  refine TL.val (Yl.loadA (vs := saidL (sumH z) x z.length m z d) Tryz.underlying56 rfl sz56 rfl (by repeat (first | exact Foc.head | apply Foc.tail | apply Foc.right)) rfl) rfl ?_
  refine TL.val (Yl.iface Tryz.underlying56 rfl rfl) rfl ?_
  refine TL.call (Cll.func (xs := [_, _]) (vs := [_, _]) Tryz.func19 rfl (by kernel_rfl) ⟨rfl, rfl, trivial⟩) rfl (Gives.of (fun _ h => h.perm perm4b) (layerDf_g ea m es z d r c hc hcm ht hz hok hzs x hx g _)) fun bz => ?_
  refine TL.val (Yl.eqlNilI Tryz.underlying58 rfl rfl) rfl ?_
  refine TL.val (Yl.assign rfl) rfl ?_
  refine TL.next ?_
  exact TC.back1 () rfl rfl (fun _ h => h.sub (by repeat (first | exact List.Sublist.refl _ | exact List.sublist_append_right _ _ | refine List.Sublist.cons_cons _ ?_ | refine List.Sublist.append (List.Sublist.refl _) ?_ | refine List.Sublist.cons _ ?_ | refine List.Sublist.trans ?_ (List.sublist_append_right _ _))))
theorem lvN_q (ea : Addr) (m : List UInt8) (es : List TE) (z d r : List UInt8) (c : Nat) (hc : 0 < c) (hcm : c ≤ 60000) (ht : TarOf es d) (hz : z = gzHead ++ r) (hok : GzOk z d c 0 0 10 false false) (hzs : z.length ≤ 1000000000) : Quiet Tryz.prog 9 #[.agg ⟨hashV (sumH z)⟩, .agg ⟨hashV (sumH d)⟩, .int .i64 ((z.length + 1) : Nat), vS m, vS z, vS d, .bool false] [eofB ea] (.bool false) := by
  refine Quiet.of_gives fun g Fr => ?_
  refine Gives.enter Tryz.func9 rfl Tryz.ntmps9 rfl ?_
  refine TC.seq ?_
  refine TC.region ?_
  refine TL.eff (Eff.box (v := .agg ⟨hashV (sumH z)⟩) rfl rfl) rfl fun b7 => ?_
  refine TL.eff (Eff.box (v := .agg ⟨hashV (sumH d)⟩) rfl rfl) rfl fun b8 => ?_
  refine TL.val (Yl.assign rfl) rfl ?_
  refine TL.next ?_
  refine TC.seq ?_
  refine TC.draws [10] _ mixed (by kernel_rfl) rfl (fun _ h => h) ?_
  refine TA.load 0 rfl (by kernel_rfl) (Yl.loadA (vs := hashV (sumH z)) Tryz.underlying29 rfl sz29 rfl (by repeat (first | exact Foc.head | apply Foc.tail | apply Foc.right)) rfl) rfl ?_
  refine TA.quiet 1 rfl (by kernel_rfl) (Cll.func (xs := [_]) (vs := [_]) Tryz.func18 rfl (by kernel_rfl) ⟨rfl, trivial⟩) rfl (Quiet.none (hashTo_q algB (sumH z))) ?_
  refine TA.load 2 rfl (by kernel_rfl) (Yl.loadA (vs := hashV (sumH d)) Tryz.underlying29 rfl sz29 rfl (by repeat (first | exact Foc.head | apply Foc.tail | apply Foc.right)) rfl) rfl ?_
  refine TA.quiet 3 rfl (by kernel_rfl) (Cll.func (xs := [_]) (vs := [_]) Tryz.func18 rfl (by kernel_rfl) ⟨rfl, trivial⟩) rfl (Quiet.none (hashTo_q algB (sumH d))) ?_
  refine TA.pure 4 rfl (by kernel_rfl) (Yl.move rfl) rfl ?_
  refine TA.pure 5 rfl (by kernel_rfl) (Yl.move rfl) rfl ?_
  refine TA.pure 6 rfl (by kernel_rfl) (Yl.move rfl) rfl ?_
  refine TA.pure 7 rfl (by kernel_rfl) (Yl.move rfl) rfl ?_
  refine TA.pure 8 rfl (by kernel_rfl) (Yl.build (ixs := [0, 1, 2, 3, 4, 5]) (vs := [.agg ⟨hashV (sumH z)⟩, .agg ⟨hashV (sumH d)⟩, .int .i64 ((z.length + 1) : Nat), vS m, vS z, vS d]) (rs := saidL (sumH z) (sumH d) (z.length + 1) m z d) [_, _, _, _, _, _] st56 rfl ⟨rfl, rfl, rfl, rfl, rfl, rfl, trivial⟩ rfl) rfl ?_
  refine TA.one 9 (by kernel_rfl) ?_
  refine Up.eff rfl rfl (Eff.alloc zr56 rfl) rfl (fun _ => .inr (fun _ h => h.sub (by repeat (first | exact List.Sublist.refl _ | exact List.sublist_append_right _ _ | refine List.Sublist.cons_cons _ ?_ | refine List.Sublist.append (List.Sublist.refl _) ?_ | refine List.Sublist.cons _ ?_ | refine List.Sublist.trans ?_ (List.sublist_append_right _ _))))) fun b15 => ?_
  refine TA.one 10 (by kernel_rfl) ?_
  refine Up.skp rfl rfl (Skp.storeA (vs := saidL (sumH z) (sumH d) (z.length + 1) m z d) sz56 rfl rfl rfl (by repeat (first | exact Foc.head | apply Foc.tail | apply Foc.right)) (Nat.le_of_ble_eq_true rfl) rfl) (.inl rfl) ?_
  refine TA.next (by kernel_rfl) ?_
  refine TC.seq ?_
  refine TC.seq ?_
  refine TC.region ?_
  refine TL.val (Yl.move rfl) rfl ?_
  refine TL.next ?_
  refine TC.no rfl ?_
  refine TC.skip_next ?_
  refine TC.seq ?_
  refine TC.region ?_
  refine TL.val (Yl.loadA (vs := saidL (sumH z) (sumH d) (z.length + 1) m z d) Tryz.underlying56 rfl sz56 rfl (by repeat (first | exact Foc.head | apply Foc.tail | apply Foc.right)) rfl) rfl ?_
  refine TL.val (Yl.iface Tryz.underlying56 rfl rfl) rfl ?_
  refine TL.call (Cll.func (xs := [_, _]) (vs := [_, _]) Tryz.func19 rfl (by kernel_rfl) ⟨rfl, rfl, trivial⟩) rfl (Gives.of (fun _ h => h.perm perm4b) (layerN_g ea m es z d r c hc hcm ht hz hok hzs g _)) fun bz => ?_
  refine TL.val (Yl.eqlNilI Tryz.underlying58 rfl rfl) rfl ?_
  refine TL.val (Yl.assign rfl) rfl ?_
  refine TL.next ?_
  exact TC.back1 () rfl rfl (fun _ h => h.sub (by repeat (first | exact List.Sublist.refl _ | exact List.sublist_append_right _ _ | refine List.Sublist.cons_cons _ ?_ | refine List.Sublist.append (List.Sublist.refl _) ?_ | refine List.Sublist.cons _ ?_ | refine List.Sublist.trans ?_ (List.sublist_append_right _ _))))
end Go.Proofs.YtlhncphipfkkjaaGreatDoor
