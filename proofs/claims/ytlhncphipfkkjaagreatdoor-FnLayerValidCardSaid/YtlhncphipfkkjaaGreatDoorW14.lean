/- The contract of the law's function: it returns true; conditions: the variable io.EOF holds an error, and the arguments are read as the row reads them. -/
import Derived.Test.YtlhncphipfkkjaaGreatDoorW13
namespace Go.Proofs.YtlhncphipfkkjaaGreatDoor
open Go
theorem Yl.slc00 {P : Program} {F : FL} {H : HL} {d : Option Nat} {ty : TypeId} {pos : String} {aft : Array Edge} {gd : Option (Nat × Bool)} {t : TypeId} {x y : Operand} {e sz : TypeId} {k : IntKind} {m : Int} {oa : Option Addr} (hu : P.underlying t = some (.slice e)) (hz : SizeIs P e sz) (hx : ev F x = some (.slice oa 0 0)) (hy : ev F y = some (.int k m)) (hm : m = 0) :
    Yl P F H ⟨d, .slice t x none (some y) none, ty, pos, aft, gd⟩ (.slice oa 0 0) := fun _ g w hf _ => by
  subst hm
  simp [execOp, hf.eval hx, hf.eval hy, Instr.sliceAt, Instr.slice, Instr.sliceBounds, Instr.sliceBound, asIntOf, run_underlying hu, run_sizeOf' hz]
theorem tarEntries0_q (oa : Option Addr) : Quiet Tryz.prog 5 #[.slice oa 0 0] [] (.slice none 0 0) := by
  refine Quiet.of_gives fun g Fr => ?_
  rw [List.nil_append]
  refine Gives.enter Tryz.func5 rfl Tryz.ntmps5 rfl ?_
  refine TC.seq ?_
  refine TC.region ?_
  refine TL.val (Yl.assign rfl) rfl ?_
  refine TL.next ?_
  refine TC.seq ?_
  refine TC.region ?_
  refine TL.eff (Eff.lits1 [_, _, _, _, _, _, _, _, _, _] (vs := namesL.map vS) Tryz.underlying37 sz9 zr9 rfl ⟨rfl, rfl, rfl, rfl, rfl, rfl, rfl, rfl, rfl, rfl, trivial⟩ rfl rfl rfl) rfl fun b14 => ?_
  refine TL.val (Yl.assign rfl) rfl ?_
  refine TL.next ?_
  refine TC.seq ?_
  refine TC.region ?_
  refine TL.val (Yl.assign rfl) rfl ?_
  refine TL.next ?_
  refine TC.seq ?_
  refine TC.seq ?_
  refine TC.region ?_
  refine TL.val (Yl.move rfl) rfl ?_
  refine TL.val (Yl.move rfl) rfl ?_
  refine TL.val (Yl.lenL Tryz.underlying22 rfl) rfl ?_
  refine TL.val (Yl.min2 (r := 0) rfl rfl rfl) rfl ?_
  refine TL.val (Yl.slc00 Tryz.underlying22 sz38 rfl rfl rfl) rfl ?_
  refine TL.val (Yl.lenL Tryz.underlying22 rfl) rfl ?_
  refine TL.val (Yl.move rfl) rfl ?_
  refine TL.next ?_
  refine TC.block ?_
  refine TC.loopI (σ := Unit) (fun p => [(4, .slice none 0 0), (20, .int .i64 0), (21, .int .i64 0)]) (fun p => Fr) (fun p => True) (fun p => 0) () ⟨rfl, rfl, rfl, trivial⟩ (fun _ h => h.sub (by repeat (first | exact List.Sublist.refl _ | exact List.nil_sublist _ | exact List.sublist_append_right _ _ | refine List.Sublist.cons_cons _ ?_ | refine List.Sublist.append (List.Sublist.refl _) ?_ | refine List.Sublist.cons _ ?_ | refine List.Sublist.trans ?_ (List.sublist_append_right _ _)))) trivial (fun p hp => ?_)
  refine TC.seq ?_
  refine TC.region ?_
  refine TL.val (Yl.lss rfl rfl rfl) rfl ?_
  refine TL.next ?_
  refine TC.seq ?_
  refine TC.no rfl ?_
  refine TC.exit_next rfl ?_
  refine TC.seq ?_
  refine TC.region ?_
  refine TL.val (Yl.move rfl) rfl ?_
  refine TL.val (Yl.assign rfl) rfl ?_
  refine TL.next ?_
  exact TC.back1 () rfl rfl (fun _ h => h)
theorem tarOf {es : List TE} (hg : ∀ e ∈ es, e.good) (hn : (es.map TE.name).Nodup) (hl : es.length ≤ 8) : TarOf es (tarT es) := by
  have hp := posT_le es (fun e he => (hg e he).1) es.length
  have hd := tarT_length es
  exact ⟨hg, hn, hl, fun k e h => tarT_head h, tarT_end es, hd, by rw [hd]; omega⟩
theorem tarOf_ent (ws : List UInt16) (n : Nat) : TarOf (entL (ws.take (Nat.min n 8))) (tarT (entL (ws.take (Nat.min n 8)))) := by
  refine tarOf (entL_good _) (entL_nodup _) ?_
  have h1 := entL_length (ws.take (Nat.min n 8))
  have h2 : Nat.min n 8 ≤ 8 := Nat.min_le_right _ _
  rw [List.length_take] at h1
  omega
theorem gzOk0 (d : List UInt8) (c : Nat) (hd : 0 < d.length) : GzOk (gz d c) d c 0 0 10 false false := by
  refine ⟨Nat.zero_le _, (fun h => by cases h), fun _ => ⟨gzR d c (d.length + 1) 0, rfl, .inr ⟨rfl, by omega, d.length + 1, by omega, rfl⟩⟩⟩
set_option maxHeartbeats 2000000 in
theorem fn0_g (ea : Addr) (oa : Option Addr) (me : List UInt8) (hme : me.length ≤ 9223372036854775807) (w k : Nat) (hw : w < 256) (hk : k < 256) (es : List TE) (hes : es = []) (ht : TarOf es (tarT es)) (g : World) (Fr : HL) : Gives Tryz.prog 3 #[.slice oa 0 0, vS me, .int .u8 (w : Int), .int .u8 (k : Int)] g (eofB ea :: Fr) Unit (fun _ => .bool true) (fun _ => eofB ea :: Fr) := by
  refine Gives.enter Tryz.func3 rfl Tryz.ntmps3 rfl ?_
  have hE : ∀ e ∈ es, e.name.length ≤ 100 ∧ e.data.length ≤ 10000 ∧ e.mode ≤ 1000000 := fun e he => by
    obtain ⟨⟨h1, h2, h3, h4, _⟩, _⟩ := ht.good e he
    exact ⟨by omega, by omega, by omega⟩
  have hl8 := ht.len
  have hds := ht.small
  have hd0 : 0 < (tarT es).length := by have := ht.dlen; omega
  have hzl : (gz (tarT es) (1 + k * 8)).length ≤ 1000000000 := by
    have h1 := gz_length (tarT es) (1 + k * 8)
    have h2 : ((tarT es).length + 1) * (5 + (1 + k * 8)) ≤ 20001 * 2054 := Nat.mul_le_mul (by omega) (by omega)
    omega
  have hok := gzOk0 (tarT es) (1 + k * 8) hd0
  have h3n := three_nodup es ht.good (1 + k * 8)
  have hzr : gz (tarT es) (1 + k * 8) = gzHead ++ gzR (tarT es) (1 + k * 8) ((tarT es).length + 1) 0 := rfl
  refine TC.seq ?_
  refine TC.region ?_
  refine TL.val (Yl.assign rfl) rfl ?_
  refine TL.next ?_
  refine TC.seq ?_
  refine TC.seq ?_
  refine TC.region ?_
  refine TL.val (Yl.move rfl) rfl ?_
  refine TL.val (Yl.lenL Tryz.underlying22 rfl) rfl ?_
  refine TL.val (Yl.gtr rfl rfl (decide_eq_false (by omega))) rfl ?_
  refine TL.val (Yl.move rfl) rfl ?_
  refine TL.yes rfl rfl rfl ?_
  refine TL.val (Yl.move rfl) rfl ?_
  refine TL.yes rfl rfl rfl ?_
  refine TL.val (Yl.lenS Tryz.underlying9 rfl) rfl ?_
  refine TL.yes rfl rfl rfl ?_
  refine TL.val (Yl.gtr rfl rfl rfl) rfl ?_
  refine TL.val (Yl.pickF rfl rfl) rfl ?_
  refine TL.next ?_
  refine TC.cond rfl (fun hc21 => ?_) (fun hc21 => ?_)
  · replace hc21 := of_decide_eq_true hc21
    refine TC.seq ?_
    refine TC.region ?_
    refine TL.val (Yl.assign rfl) rfl ?_
    refine TL.next ?_
    exact TC.back1 () rfl rfl (fun _ h => h.sub (by repeat (first | exact List.Sublist.refl _ | exact List.nil_sublist _ | exact List.sublist_append_right _ _ | refine List.Sublist.cons_cons _ ?_ | refine List.Sublist.append (List.Sublist.refl _) ?_ | refine List.Sublist.cons _ ?_ | refine List.Sublist.trans ?_ (List.sublist_append_right _ _))))
  · replace hc21 := of_decide_eq_false hc21
    refine TC.skip_next ?_
    refine TC.seq ?_
    refine TC.region ?_
    refine TL.val (Yl.move rfl) rfl ?_
    refine TL.quiet (Cll.func (xs := [_]) (vs := [_]) Tryz.func5 rfl (by kernel_rfl) ⟨rfl, trivial⟩) rfl (Quiet.none (tarEntries0_q oa)) ?_
    refine TL.quiet (Cll.func (xs := [_]) (vs := [_]) Tryz.func4 rfl (by kernel_rfl) ⟨rfl, trivial⟩) rfl (Quiet.none (tarWrite_q es (.slice none 0 0) [] (by rw [hes]; exact SlOf.nil) (by omega) hE)) ?_
    refine TL.val (Yl.assign rfl) rfl ?_
    refine TL.next ?_
    refine TC.seq ?_
    generalize tarT es = d at *
    refine TC.region ?_
    refine TL.val (Yl.move rfl) rfl ?_
    refine TL.val (Yl.move rfl) rfl ?_
    refine TL.val (Yl.conv Tryz.underlying5 Tryz.underlying3 rfl (wI (by omega))) rfl ?_
    refine TL.val (Yl.mul (r := ((k * 8 : Nat) : Int)) rfl rfl (by rw [wI (by omega)]; omega)) rfl ?_
    refine TL.val (Yl.add (r := ((1 + k * 8 : Nat) : Int)) rfl rfl (by rw [wI (by omega)]; omega)) rfl ?_
    refine TL.quiet (Cll.func (xs := [_, _]) (vs := [_, _]) Tryz.func6 rfl (by kernel_rfl) ⟨rfl, rfl, trivial⟩) rfl (Quiet.none (gzip_q d (1 + k * 8) (by omega) (by omega) (by omega))) ?_
    refine TL.val (Yl.assign rfl) rfl ?_
    refine TL.next ?_
    refine TC.seq ?_
    refine TC.seq ?_
    generalize gz d (1 + k * 8) = z at *
    have hxl : (d ++ [120]).length = d.length + 1 := List.length_append
    by_cases hnd : (([d, z, d ++ [120]] : List (List UInt8)).map sumH).Nodup
    · refine TC.region ?_
      refine TL.val (Yl.move rfl) rfl ?_
      refine TL.val (Yl.move rfl) rfl ?_
      refine TL.val (Yl.move rfl) rfl ?_
      refine TL.val (Yl.addS rfl rfl (by show d.length + 1 ≤ _; omega)) rfl ?_
      refine TL.eff (Eff.lits1 [_, _, _] (vs := [vS d, vS z, vS (d ++ [120])]) Tryz.underlying37 sz9 zr9 rfl ⟨rfl, rfl, rfl, trivial⟩ rfl rfl rfl) rfl fun b35 => ?_
      refine TL.quiet (Cll.func (xs := [_]) (vs := [_]) Tryz.func7 rfl (by kernel_rfl) ⟨rfl, trivial⟩) rfl (fun g w ho => apart_q [d, z, d ++ [120]] 3 rfl (by omega) h3n (by intro y hy; simp only [List.mem_cons, List.not_mem_nil, or_false] at hy; rcases hy with rfl | rfl | rfl <;> omega) b35 g w (ho.sub (.cons_cons _ (List.nil_sublist _)))) ?_
      rw [decide_eq_true hnd]
      refine TL.val (Yl.not rfl) rfl ?_
      refine TL.next ?_
      refine TC.no rfl ?_
      refine TC.skip_next ?_
      refine TC.seq ?_
      have hd1 : sumH (d ++ [120]) ≠ sumH z := fun e => by
        simp only [List.map_cons, List.map_nil, List.nodup_cons, List.mem_cons, List.not_mem_nil, or_false] at hnd
        exact hnd.2.1 e.symm
      have hd2 : sumH (d ++ [120]) ≠ sumH d := fun e => by
        simp only [List.map_cons, List.map_nil, List.nodup_cons, List.mem_cons, List.not_mem_nil, or_false] at hnd
        exact hnd.1 (.inr e.symm)
      refine TC.region ?_
      refine TL.val (Yl.move rfl) rfl ?_
      refine TL.quiet (Cll.func (xs := [_]) (vs := [_]) Tryz.func8 rfl (by kernel_rfl) ⟨rfl, trivial⟩) rfl (Quiet.none (sum_q z (by omega))) ?_
      refine TL.val (Yl.move rfl) rfl ?_
      refine TL.quiet (Cll.func (xs := [_]) (vs := [_]) Tryz.func8 rfl (by kernel_rfl) ⟨rfl, trivial⟩) rfl (Quiet.none (sum_q d (by omega))) ?_
      refine TL.val (Yl.move rfl) rfl ?_
      refine TL.val (Yl.lenS Tryz.underlying9 rfl) rfl ?_
      refine TL.eff (Eff.alloc zr29 rfl) rfl fun b11 => ?_
      refine TL.eff (Eff.alloc zr29 rfl) rfl fun b12 => ?_
      refine TL.skp (Skp.storeA (vs := hashV (sumH z)) sz29 rfl rfl rfl (by repeat (first | exact Foc.head | apply Foc.tail | apply Foc.right)) (Nat.le_of_ble_eq_true rfl) rfl) ?_
      refine TL.skp (Skp.storeA (vs := hashV (sumH d)) sz29 rfl rfl rfl (by repeat (first | exact Foc.head | apply Foc.tail | apply Foc.right)) (Nat.le_of_ble_eq_true rfl) rfl) ?_
      refine TL.val (Yl.assign rfl) rfl ?_
      refine TL.next ?_
      refine TC.seq ?_
      refine TC.seq ?_
      refine TC.region ?_
      refine TL.val (Yl.move rfl) rfl ?_
      refine TL.val (Yl.rem (r := ((w % 4 : Nat) : Int)) rfl rfl (by omega) (by omega) (by omega)) rfl ?_
      refine TL.next ?_
      refine TC.block ?_
      refine TC.seq ?_
      refine TC.region ?_
      refine TL.val (Yl.eql rfl rfl rfl) rfl ?_
      refine TL.val (Yl.assign rfl) rfl ?_
      refine TL.next ?_
      refine TC.cond rfl (fun hc46 => ?_) (fun hc46 => ?_)
      · replace hc46 := of_decide_eq_true hc46
        refine TC.region ?_
        refine TL.val (Yl.move rfl) rfl ?_
        refine TL.val (Yl.addS rfl rfl (by show d.length + 1 ≤ _; omega)) rfl ?_
        refine TL.quiet (Cll.func (xs := [_]) (vs := [_]) Tryz.func8 rfl (by kernel_rfl) ⟨rfl, trivial⟩) rfl (Quiet.none (sum_q (d ++ [120]) (by omega))) ?_
        refine TL.skp (Skp.storeA (vs := hashV (sumH (d ++ [120]))) sz29 rfl rfl rfl (by repeat (first | exact Foc.head | apply Foc.tail | apply Foc.right)) (Nat.le_of_ble_eq_true rfl) rfl) ?_
        refine TL.next ?_
        refine TC.seq ?_
        refine TC.draws [] _ mixed (by kernel_rfl) rfl (fun _ h => h) ?_
        refine TA.load 0 rfl (by kernel_rfl) (Yl.loadA (vs := hashV (sumH (d ++ [120]))) Tryz.underlying29 rfl sz29 rfl (by repeat (first | exact Foc.head | apply Foc.tail | apply Foc.right)) rfl) rfl ?_
        refine TA.load 1 rfl (by kernel_rfl) (Yl.loadA (vs := hashV (sumH d)) Tryz.underlying29 rfl sz29 rfl (by repeat (first | exact Foc.head | apply Foc.tail | apply Foc.right)) rfl) rfl ?_
        refine TA.pure 2 rfl (by kernel_rfl) (Yl.move rfl) rfl ?_
        refine TA.pure 3 rfl (by kernel_rfl) (Yl.move rfl) rfl ?_
        refine TA.quiet 4 rfl (by kernel_rfl) (Cll.func (xs := [_]) (vs := [_]) Tryz.func10 rfl (by kernel_rfl) ⟨rfl, trivial⟩) rfl (Quiet.none (imText_q me (by omega))) ?_
        refine TA.pure 5 rfl (by kernel_rfl) (Yl.move rfl) rfl ?_
        refine TA.pure 6 rfl (by kernel_rfl) (Yl.move rfl) rfl ?_
        refine TA.quiet 7 rfl (by kernel_rfl) (Cll.func (xs := [_, _, _, _, _, _, _]) (vs := [_, _, _, _, _, _, _]) Tryz.func9 rfl (by kernel_rfl) ⟨rfl, rfl, rfl, rfl, rfl, rfl, rfl, trivial⟩) rfl (fun g w ho => lvDg_q ea (imT me) es z d _ (1 + k * 8) (by omega) (by omega) ht hzr hok hzl _ hd1 g w (ho.sub (by repeat (first | exact List.Sublist.refl _ | exact List.nil_sublist _ | exact List.sublist_append_right _ _ | refine List.Sublist.cons_cons _ ?_ | refine List.Sublist.append (List.Sublist.refl _) ?_ | refine List.Sublist.cons _ ?_ | refine List.Sublist.trans ?_ (List.sublist_append_right _ _))))) ?_
        refine TA.pure 8 rfl (by kernel_rfl) (Yl.move rfl) rfl ?_
        refine TA.pure 9 rfl (by kernel_rfl) (Yl.rem (r := ((w % 4 : Nat) : Int)) rfl rfl (by omega) (by omega) (by omega)) rfl ?_
        refine TA.pure 10 rfl (by kernel_rfl) (Yl.eql rfl rfl (decide_eq_false (by omega))) rfl ?_
        refine TA.pure 11 rfl (by kernel_rfl) (Yl.eqlB Tryz.underlying4 rfl rfl) rfl ?_
        refine TA.pure 12 rfl (by kernel_rfl) (Yl.move rfl) rfl ?_
        refine TA.pureG 13 rfl (by kernel_rfl) rfl rfl rfl (Yl.move rfl) rfl ?_
        refine TA.quietG 14 rfl (by kernel_rfl) rfl rfl rfl (Cll.func (xs := [_]) (vs := [_]) Tryz.func8 rfl (by kernel_rfl) ⟨rfl, trivial⟩) rfl (Quiet.none (sum_q z (by omega))) ?_
        refine TA.pureG 15 rfl (by kernel_rfl) rfl rfl rfl (Yl.move rfl) rfl ?_
        refine TA.quietG 16 rfl (by kernel_rfl) rfl rfl rfl (Cll.func (xs := [_]) (vs := [_]) Tryz.func8 rfl (by kernel_rfl) ⟨rfl, trivial⟩) rfl (Quiet.none (sum_q d (by omega))) ?_
        refine TA.pureG 17 rfl (by kernel_rfl) rfl rfl rfl (Yl.move rfl) rfl ?_
        refine TA.pureG 18 rfl (by kernel_rfl) rfl rfl rfl (Yl.lenS Tryz.underlying9 rfl) rfl ?_
        refine TA.pureG 19 rfl (by kernel_rfl) rfl rfl rfl (Yl.move rfl) rfl ?_
        refine TA.quietG 20 rfl (by kernel_rfl) rfl rfl rfl (Cll.func (xs := [_]) (vs := [_]) Tryz.func10 rfl (by kernel_rfl) ⟨rfl, trivial⟩) rfl (Quiet.none (imText_q me (by omega))) ?_
        refine TA.pureG 21 rfl (by kernel_rfl) rfl rfl rfl (Yl.move rfl) rfl ?_
        refine TA.pureG 22 rfl (by kernel_rfl) rfl rfl rfl (Yl.move rfl) rfl ?_
        refine TA.quietG 23 rfl (by kernel_rfl) rfl rfl rfl (Cll.func (xs := [_, _, _, _, _, _, _]) (vs := [_, _, _, _, _, _, _]) Tryz.func9 rfl (by kernel_rfl) ⟨rfl, rfl, rfl, rfl, rfl, rfl, rfl, trivial⟩) rfl (fun g w ho => lvOk_q ea (imT me) es z d _ (1 + k * 8) (by omega) (by omega) ht hzr hok hzl g w (ho.sub (by repeat (first | exact List.Sublist.refl _ | exact List.nil_sublist _ | exact List.sublist_append_right _ _ | refine List.Sublist.cons_cons _ ?_ | refine List.Sublist.append (List.Sublist.refl _) ?_ | refine List.Sublist.cons _ ?_ | refine List.Sublist.trans ?_ (List.sublist_append_right _ _))))) ?_
        refine TA.pure 24 rfl (by kernel_rfl) (Yl.pickT rfl rfl) rfl ?_
        refine TA.pure 25 rfl (by kernel_rfl) (Yl.move rfl) rfl ?_
        refine TA.loadG 26 rfl (by kernel_rfl) rfl rfl rfl (Yl.loadA (vs := hashV (sumH (d ++ [120]))) Tryz.underlying29 rfl sz29 rfl (by repeat (first | exact Foc.head | apply Foc.tail | apply Foc.right)) rfl) rfl ?_
        refine TA.loadG 27 rfl (by kernel_rfl) rfl rfl rfl (Yl.loadA (vs := hashV (sumH d)) Tryz.underlying29 rfl sz29 rfl (by repeat (first | exact Foc.head | apply Foc.tail | apply Foc.right)) rfl) rfl ?_
        refine TA.pureG 28 rfl (by kernel_rfl) rfl rfl rfl (Yl.move rfl) rfl ?_
        refine TA.pureG 29 rfl (by kernel_rfl) rfl rfl rfl (Yl.move rfl) rfl ?_
        refine TA.quietG 30 rfl (by kernel_rfl) rfl rfl rfl (Cll.func (xs := [_]) (vs := [_]) Tryz.func10 rfl (by kernel_rfl) ⟨rfl, trivial⟩) rfl (Quiet.none (imText_q me (by omega))) ?_
        refine TA.pureG 31 rfl (by kernel_rfl) rfl rfl rfl (Yl.move rfl) rfl ?_
        refine TA.pureG 32 rfl (by kernel_rfl) rfl rfl rfl (Yl.move rfl) rfl ?_
        refine TA.quietG 33 rfl (by kernel_rfl) rfl rfl rfl (Cll.func (xs := [_, _, _, _, _, _, _]) (vs := [_, _, _, _, _, _, _]) Tryz.func9 rfl (by kernel_rfl) ⟨rfl, rfl, rfl, rfl, rfl, rfl, rfl, trivial⟩) rfl (Quiet.none (lvFast_q (sumH (d ++ [120])) (sumH d) (imT me) z d z.length)) ?_
        refine TA.pure 34 rfl (by kernel_rfl) (Yl.pickT rfl rfl) rfl ?_
        refine TA.pure 35 rfl (by kernel_rfl) (Yl.assign rfl) rfl ?_
        refine TA.next (by kernel_rfl) ?_
        exact TC.back1 () rfl rfl (fun _ h => h.sub (by repeat (first | exact List.Sublist.refl _ | exact List.nil_sublist _ | exact List.sublist_append_right _ _ | refine List.Sublist.cons_cons _ ?_ | refine List.Sublist.append (List.Sublist.refl _) ?_ | refine List.Sublist.cons _ ?_ | refine List.Sublist.trans ?_ (List.sublist_append_right _ _))))
      · replace hc46 := of_decide_eq_false hc46
        refine TC.seq ?_
        refine TC.region ?_
        refine TL.val (Yl.eql rfl rfl rfl) rfl ?_
        refine TL.val (Yl.assign rfl) rfl ?_
        refine TL.next ?_
        refine TC.cond rfl (fun hc51 => ?_) (fun hc51 => ?_)
        · replace hc51 := of_decide_eq_true hc51
          refine TC.region ?_
          refine TL.val (Yl.move rfl) rfl ?_
          refine TL.val (Yl.addS rfl rfl (by show d.length + 1 ≤ _; omega)) rfl ?_
          refine TL.quiet (Cll.func (xs := [_]) (vs := [_]) Tryz.func8 rfl (by kernel_rfl) ⟨rfl, trivial⟩) rfl (Quiet.none (sum_q (d ++ [120]) (by omega))) ?_
          refine TL.skp (Skp.storeA (vs := hashV (sumH (d ++ [120]))) sz29 rfl rfl rfl (by repeat (first | exact Foc.head | apply Foc.tail | apply Foc.right)) (Nat.le_of_ble_eq_true rfl) rfl) ?_
          refine TL.next ?_
          refine TC.seq ?_
          refine TC.draws [] _ mixed (by kernel_rfl) rfl (fun _ h => h) ?_
          refine TA.load 0 rfl (by kernel_rfl) (Yl.loadA (vs := hashV (sumH z)) Tryz.underlying29 rfl sz29 rfl (by repeat (first | exact Foc.head | apply Foc.tail | apply Foc.right)) rfl) rfl ?_
          refine TA.load 1 rfl (by kernel_rfl) (Yl.loadA (vs := hashV (sumH (d ++ [120]))) Tryz.underlying29 rfl sz29 rfl (by repeat (first | exact Foc.head | apply Foc.tail | apply Foc.right)) rfl) rfl ?_
          refine TA.pure 2 rfl (by kernel_rfl) (Yl.move rfl) rfl ?_
          refine TA.pure 3 rfl (by kernel_rfl) (Yl.move rfl) rfl ?_
          refine TA.quiet 4 rfl (by kernel_rfl) (Cll.func (xs := [_]) (vs := [_]) Tryz.func10 rfl (by kernel_rfl) ⟨rfl, trivial⟩) rfl (Quiet.none (imText_q me (by omega))) ?_
          refine TA.pure 5 rfl (by kernel_rfl) (Yl.move rfl) rfl ?_
          refine TA.pure 6 rfl (by kernel_rfl) (Yl.move rfl) rfl ?_
          refine TA.quiet 7 rfl (by kernel_rfl) (Cll.func (xs := [_, _, _, _, _, _, _]) (vs := [_, _, _, _, _, _, _]) Tryz.func9 rfl (by kernel_rfl) ⟨rfl, rfl, rfl, rfl, rfl, rfl, rfl, trivial⟩) rfl (fun g w ho => lvDf_q ea (imT me) es z d _ (1 + k * 8) (by omega) (by omega) ht hzr hok hzl _ hd2 g w (ho.sub (by repeat (first | exact List.Sublist.refl _ | exact List.nil_sublist _ | exact List.sublist_append_right _ _ | refine List.Sublist.cons_cons _ ?_ | refine List.Sublist.append (List.Sublist.refl _) ?_ | refine List.Sublist.cons _ ?_ | refine List.Sublist.trans ?_ (List.sublist_append_right _ _))))) ?_
          refine TA.pure 8 rfl (by kernel_rfl) (Yl.move rfl) rfl ?_
          refine TA.pure 9 rfl (by kernel_rfl) (Yl.rem (r := ((w % 4 : Nat) : Int)) rfl rfl (by omega) (by omega) (by omega)) rfl ?_
          refine TA.pure 10 rfl (by kernel_rfl) (Yl.eql rfl rfl (decide_eq_false (by omega))) rfl ?_
          refine TA.pure 11 rfl (by kernel_rfl) (Yl.eqlB Tryz.underlying4 rfl rfl) rfl ?_
          refine TA.pure 12 rfl (by kernel_rfl) (Yl.move rfl) rfl ?_
          refine TA.pureG 13 rfl (by kernel_rfl) rfl rfl rfl (Yl.move rfl) rfl ?_
          refine TA.quietG 14 rfl (by kernel_rfl) rfl rfl rfl (Cll.func (xs := [_]) (vs := [_]) Tryz.func8 rfl (by kernel_rfl) ⟨rfl, trivial⟩) rfl (Quiet.none (sum_q z (by omega))) ?_
          refine TA.pureG 15 rfl (by kernel_rfl) rfl rfl rfl (Yl.move rfl) rfl ?_
          refine TA.quietG 16 rfl (by kernel_rfl) rfl rfl rfl (Cll.func (xs := [_]) (vs := [_]) Tryz.func8 rfl (by kernel_rfl) ⟨rfl, trivial⟩) rfl (Quiet.none (sum_q d (by omega))) ?_
          refine TA.pureG 17 rfl (by kernel_rfl) rfl rfl rfl (Yl.move rfl) rfl ?_
          refine TA.pureG 18 rfl (by kernel_rfl) rfl rfl rfl (Yl.lenS Tryz.underlying9 rfl) rfl ?_
          refine TA.pureG 19 rfl (by kernel_rfl) rfl rfl rfl (Yl.move rfl) rfl ?_
          refine TA.quietG 20 rfl (by kernel_rfl) rfl rfl rfl (Cll.func (xs := [_]) (vs := [_]) Tryz.func10 rfl (by kernel_rfl) ⟨rfl, trivial⟩) rfl (Quiet.none (imText_q me (by omega))) ?_
          refine TA.pureG 21 rfl (by kernel_rfl) rfl rfl rfl (Yl.move rfl) rfl ?_
          refine TA.pureG 22 rfl (by kernel_rfl) rfl rfl rfl (Yl.move rfl) rfl ?_
          refine TA.quietG 23 rfl (by kernel_rfl) rfl rfl rfl (Cll.func (xs := [_, _, _, _, _, _, _]) (vs := [_, _, _, _, _, _, _]) Tryz.func9 rfl (by kernel_rfl) ⟨rfl, rfl, rfl, rfl, rfl, rfl, rfl, trivial⟩) rfl (fun g w ho => lvOk_q ea (imT me) es z d _ (1 + k * 8) (by omega) (by omega) ht hzr hok hzl g w (ho.sub (by repeat (first | exact List.Sublist.refl _ | exact List.nil_sublist _ | exact List.sublist_append_right _ _ | refine List.Sublist.cons_cons _ ?_ | refine List.Sublist.append (List.Sublist.refl _) ?_ | refine List.Sublist.cons _ ?_ | refine List.Sublist.trans ?_ (List.sublist_append_right _ _))))) ?_
          refine TA.pure 24 rfl (by kernel_rfl) (Yl.pickT rfl rfl) rfl ?_
          refine TA.pure 25 rfl (by kernel_rfl) (Yl.move rfl) rfl ?_
          refine TA.loadG 26 rfl (by kernel_rfl) rfl rfl rfl (Yl.loadA (vs := hashV (sumH z)) Tryz.underlying29 rfl sz29 rfl (by repeat (first | exact Foc.head | apply Foc.tail | apply Foc.right)) rfl) rfl ?_
          refine TA.loadG 27 rfl (by kernel_rfl) rfl rfl rfl (Yl.loadA (vs := hashV (sumH (d ++ [120]))) Tryz.underlying29 rfl sz29 rfl (by repeat (first | exact Foc.head | apply Foc.tail | apply Foc.right)) rfl) rfl ?_
          refine TA.pureG 28 rfl (by kernel_rfl) rfl rfl rfl (Yl.move rfl) rfl ?_
          refine TA.pureG 29 rfl (by kernel_rfl) rfl rfl rfl (Yl.move rfl) rfl ?_
          refine TA.quietG 30 rfl (by kernel_rfl) rfl rfl rfl (Cll.func (xs := [_]) (vs := [_]) Tryz.func10 rfl (by kernel_rfl) ⟨rfl, trivial⟩) rfl (Quiet.none (imText_q me (by omega))) ?_
          refine TA.pureG 31 rfl (by kernel_rfl) rfl rfl rfl (Yl.move rfl) rfl ?_
          refine TA.pureG 32 rfl (by kernel_rfl) rfl rfl rfl (Yl.move rfl) rfl ?_
          refine TA.quietG 33 rfl (by kernel_rfl) rfl rfl rfl (Cll.func (xs := [_, _, _, _, _, _, _]) (vs := [_, _, _, _, _, _, _]) Tryz.func9 rfl (by kernel_rfl) ⟨rfl, rfl, rfl, rfl, rfl, rfl, rfl, trivial⟩) rfl (Quiet.none (lvFast_q (sumH z) (sumH (d ++ [120])) (imT me) z d z.length)) ?_
          refine TA.pure 34 rfl (by kernel_rfl) (Yl.pickT rfl rfl) rfl ?_
          refine TA.pure 35 rfl (by kernel_rfl) (Yl.assign rfl) rfl ?_
          refine TA.next (by kernel_rfl) ?_
          exact TC.back1 () rfl rfl (fun _ h => h.sub (by repeat (first | exact List.Sublist.refl _ | exact List.nil_sublist _ | exact List.sublist_append_right _ _ | refine List.Sublist.cons_cons _ ?_ | refine List.Sublist.append (List.Sublist.refl _) ?_ | refine List.Sublist.cons _ ?_ | refine List.Sublist.trans ?_ (List.sublist_append_right _ _))))
        · replace hc51 := of_decide_eq_false hc51
          refine TC.seq ?_
          refine TC.region ?_
          refine TL.val (Yl.eql rfl rfl rfl) rfl ?_
          refine TL.val (Yl.assign rfl) rfl ?_
          refine TL.next ?_
          refine TC.cond rfl (fun hc56 => ?_) (fun hc56 => ?_)
          · replace hc56 := of_decide_eq_true hc56
            refine TC.region ?_
            refine TL.val (Yl.move rfl) rfl ?_
            refine TL.val (Yl.add (r := ((z.length + 1 : Nat) : Int)) rfl rfl (by rw [wI (by omega)]; omega)) rfl ?_
            refine TL.val (Yl.assign rfl) rfl ?_
            refine TL.next ?_
            refine TC.seq ?_
            refine TC.draws [] _ mixed (by kernel_rfl) rfl (fun _ h => h) ?_
            refine TA.load 0 rfl (by kernel_rfl) (Yl.loadA (vs := hashV (sumH z)) Tryz.underlying29 rfl sz29 rfl (by repeat (first | exact Foc.head | apply Foc.tail | apply Foc.right)) rfl) rfl ?_
            refine TA.load 1 rfl (by kernel_rfl) (Yl.loadA (vs := hashV (sumH d)) Tryz.underlying29 rfl sz29 rfl (by repeat (first | exact Foc.head | apply Foc.tail | apply Foc.right)) rfl) rfl ?_
            refine TA.pure 2 rfl (by kernel_rfl) (Yl.move rfl) rfl ?_
            refine TA.pure 3 rfl (by kernel_rfl) (Yl.move rfl) rfl ?_
            refine TA.quiet 4 rfl (by kernel_rfl) (Cll.func (xs := [_]) (vs := [_]) Tryz.func10 rfl (by kernel_rfl) ⟨rfl, trivial⟩) rfl (Quiet.none (imText_q me (by omega))) ?_
            refine TA.pure 5 rfl (by kernel_rfl) (Yl.move rfl) rfl ?_
            refine TA.pure 6 rfl (by kernel_rfl) (Yl.move rfl) rfl ?_
            refine TA.quiet 7 rfl (by kernel_rfl) (Cll.func (xs := [_, _, _, _, _, _, _]) (vs := [_, _, _, _, _, _, _]) Tryz.func9 rfl (by kernel_rfl) ⟨rfl, rfl, rfl, rfl, rfl, rfl, rfl, trivial⟩) rfl (fun g w ho => lvN_q ea (imT me) es z d _ (1 + k * 8) (by omega) (by omega) ht hzr hok hzl g w (ho.sub (by repeat (first | exact List.Sublist.refl _ | exact List.nil_sublist _ | exact List.sublist_append_right _ _ | refine List.Sublist.cons_cons _ ?_ | refine List.Sublist.append (List.Sublist.refl _) ?_ | refine List.Sublist.cons _ ?_ | refine List.Sublist.trans ?_ (List.sublist_append_right _ _))))) ?_
            refine TA.pure 8 rfl (by kernel_rfl) (Yl.move rfl) rfl ?_
            refine TA.pure 9 rfl (by kernel_rfl) (Yl.rem (r := ((w % 4 : Nat) : Int)) rfl rfl (by omega) (by omega) (by omega)) rfl ?_
            refine TA.pure 10 rfl (by kernel_rfl) (Yl.eql rfl rfl (decide_eq_false (by omega))) rfl ?_
            refine TA.pure 11 rfl (by kernel_rfl) (Yl.eqlB Tryz.underlying4 rfl rfl) rfl ?_
            refine TA.pure 12 rfl (by kernel_rfl) (Yl.move rfl) rfl ?_
            refine TA.pureG 13 rfl (by kernel_rfl) rfl rfl rfl (Yl.move rfl) rfl ?_
            refine TA.quietG 14 rfl (by kernel_rfl) rfl rfl rfl (Cll.func (xs := [_]) (vs := [_]) Tryz.func8 rfl (by kernel_rfl) ⟨rfl, trivial⟩) rfl (Quiet.none (sum_q z (by omega))) ?_
            refine TA.pureG 15 rfl (by kernel_rfl) rfl rfl rfl (Yl.move rfl) rfl ?_
            refine TA.quietG 16 rfl (by kernel_rfl) rfl rfl rfl (Cll.func (xs := [_]) (vs := [_]) Tryz.func8 rfl (by kernel_rfl) ⟨rfl, trivial⟩) rfl (Quiet.none (sum_q d (by omega))) ?_
            refine TA.pureG 17 rfl (by kernel_rfl) rfl rfl rfl (Yl.move rfl) rfl ?_
            refine TA.pureG 18 rfl (by kernel_rfl) rfl rfl rfl (Yl.lenS Tryz.underlying9 rfl) rfl ?_
            refine TA.pureG 19 rfl (by kernel_rfl) rfl rfl rfl (Yl.move rfl) rfl ?_
            refine TA.quietG 20 rfl (by kernel_rfl) rfl rfl rfl (Cll.func (xs := [_]) (vs := [_]) Tryz.func10 rfl (by kernel_rfl) ⟨rfl, trivial⟩) rfl (Quiet.none (imText_q me (by omega))) ?_
            refine TA.pureG 21 rfl (by kernel_rfl) rfl rfl rfl (Yl.move rfl) rfl ?_
            refine TA.pureG 22 rfl (by kernel_rfl) rfl rfl rfl (Yl.move rfl) rfl ?_
            refine TA.quietG 23 rfl (by kernel_rfl) rfl rfl rfl (Cll.func (xs := [_, _, _, _, _, _, _]) (vs := [_, _, _, _, _, _, _]) Tryz.func9 rfl (by kernel_rfl) ⟨rfl, rfl, rfl, rfl, rfl, rfl, rfl, trivial⟩) rfl (fun g w ho => lvOk_q ea (imT me) es z d _ (1 + k * 8) (by omega) (by omega) ht hzr hok hzl g w (ho.sub (by repeat (first | exact List.Sublist.refl _ | exact List.nil_sublist _ | exact List.sublist_append_right _ _ | refine List.Sublist.cons_cons _ ?_ | refine List.Sublist.append (List.Sublist.refl _) ?_ | refine List.Sublist.cons _ ?_ | refine List.Sublist.trans ?_ (List.sublist_append_right _ _))))) ?_
            refine TA.pure 24 rfl (by kernel_rfl) (Yl.pickT rfl rfl) rfl ?_
            refine TA.pure 25 rfl (by kernel_rfl) (Yl.move rfl) rfl ?_
            refine TA.loadG 26 rfl (by kernel_rfl) rfl rfl rfl (Yl.loadA (vs := hashV (sumH z)) Tryz.underlying29 rfl sz29 rfl (by repeat (first | exact Foc.head | apply Foc.tail | apply Foc.right)) rfl) rfl ?_
            refine TA.loadG 27 rfl (by kernel_rfl) rfl rfl rfl (Yl.loadA (vs := hashV (sumH d)) Tryz.underlying29 rfl sz29 rfl (by repeat (first | exact Foc.head | apply Foc.tail | apply Foc.right)) rfl) rfl ?_
            refine TA.pureG 28 rfl (by kernel_rfl) rfl rfl rfl (Yl.move rfl) rfl ?_
            refine TA.pureG 29 rfl (by kernel_rfl) rfl rfl rfl (Yl.move rfl) rfl ?_
            refine TA.quietG 30 rfl (by kernel_rfl) rfl rfl rfl (Cll.func (xs := [_]) (vs := [_]) Tryz.func10 rfl (by kernel_rfl) ⟨rfl, trivial⟩) rfl (Quiet.none (imText_q me (by omega))) ?_
            refine TA.pureG 31 rfl (by kernel_rfl) rfl rfl rfl (Yl.move rfl) rfl ?_
            refine TA.pureG 32 rfl (by kernel_rfl) rfl rfl rfl (Yl.move rfl) rfl ?_
            refine TA.quietG 33 rfl (by kernel_rfl) rfl rfl rfl (Cll.func (xs := [_, _, _, _, _, _, _]) (vs := [_, _, _, _, _, _, _]) Tryz.func9 rfl (by kernel_rfl) ⟨rfl, rfl, rfl, rfl, rfl, rfl, rfl, trivial⟩) rfl (Quiet.none (lvFast_q (sumH z) (sumH d) (imT me) z d (z.length + 1))) ?_
            refine TA.pure 34 rfl (by kernel_rfl) (Yl.pickT rfl rfl) rfl ?_
            refine TA.pure 35 rfl (by kernel_rfl) (Yl.assign rfl) rfl ?_
            refine TA.next (by kernel_rfl) ?_
            exact TC.back1 () rfl rfl (fun _ h => h.sub (by repeat (first | exact List.Sublist.refl _ | exact List.nil_sublist _ | exact List.sublist_append_right _ _ | refine List.Sublist.cons_cons _ ?_ | refine List.Sublist.append (List.Sublist.refl _) ?_ | refine List.Sublist.cons _ ?_ | refine List.Sublist.trans ?_ (List.sublist_append_right _ _))))
          · replace hc56 := of_decide_eq_false hc56
            refine TC.skip_next ?_
            refine TC.seq ?_
            refine TC.draws [] _ mixed (by kernel_rfl) rfl (fun _ h => h) ?_
            refine TA.load 0 rfl (by kernel_rfl) (Yl.loadA (vs := hashV (sumH z)) Tryz.underlying29 rfl sz29 rfl (by repeat (first | exact Foc.head | apply Foc.tail | apply Foc.right)) rfl) rfl ?_
            refine TA.load 1 rfl (by kernel_rfl) (Yl.loadA (vs := hashV (sumH d)) Tryz.underlying29 rfl sz29 rfl (by repeat (first | exact Foc.head | apply Foc.tail | apply Foc.right)) rfl) rfl ?_
            refine TA.pure 2 rfl (by kernel_rfl) (Yl.move rfl) rfl ?_
            refine TA.pure 3 rfl (by kernel_rfl) (Yl.move rfl) rfl ?_
            refine TA.quiet 4 rfl (by kernel_rfl) (Cll.func (xs := [_]) (vs := [_]) Tryz.func10 rfl (by kernel_rfl) ⟨rfl, trivial⟩) rfl (Quiet.none (imText_q me (by omega))) ?_
            refine TA.pure 5 rfl (by kernel_rfl) (Yl.move rfl) rfl ?_
            refine TA.pure 6 rfl (by kernel_rfl) (Yl.move rfl) rfl ?_
            refine TA.quiet 7 rfl (by kernel_rfl) (Cll.func (xs := [_, _, _, _, _, _, _]) (vs := [_, _, _, _, _, _, _]) Tryz.func9 rfl (by kernel_rfl) ⟨rfl, rfl, rfl, rfl, rfl, rfl, rfl, trivial⟩) rfl (fun g w ho => lvOk_q ea (imT me) es z d _ (1 + k * 8) (by omega) (by omega) ht hzr hok hzl g w (ho.sub (by repeat (first | exact List.Sublist.refl _ | exact List.nil_sublist _ | exact List.sublist_append_right _ _ | refine List.Sublist.cons_cons _ ?_ | refine List.Sublist.append (List.Sublist.refl _) ?_ | refine List.Sublist.cons _ ?_ | refine List.Sublist.trans ?_ (List.sublist_append_right _ _))))) ?_
            refine TA.pure 8 rfl (by kernel_rfl) (Yl.move rfl) rfl ?_
            refine TA.pure 9 rfl (by kernel_rfl) (Yl.rem (r := ((w % 4 : Nat) : Int)) rfl rfl (by omega) (by omega) (by omega)) rfl ?_
            refine TA.pure 10 rfl (by kernel_rfl) (Yl.eql rfl rfl (decide_eq_true (by omega))) rfl ?_
            refine TA.pure 11 rfl (by kernel_rfl) (Yl.eqlB Tryz.underlying4 rfl rfl) rfl ?_
            refine TA.pure 12 rfl (by kernel_rfl) (Yl.move rfl) rfl ?_
            refine TA.pureG 13 rfl (by kernel_rfl) rfl rfl rfl (Yl.move rfl) rfl ?_
            refine TA.quietG 14 rfl (by kernel_rfl) rfl rfl rfl (Cll.func (xs := [_]) (vs := [_]) Tryz.func8 rfl (by kernel_rfl) ⟨rfl, trivial⟩) rfl (Quiet.none (sum_q z (by omega))) ?_
            refine TA.pureG 15 rfl (by kernel_rfl) rfl rfl rfl (Yl.move rfl) rfl ?_
            refine TA.quietG 16 rfl (by kernel_rfl) rfl rfl rfl (Cll.func (xs := [_]) (vs := [_]) Tryz.func8 rfl (by kernel_rfl) ⟨rfl, trivial⟩) rfl (Quiet.none (sum_q d (by omega))) ?_
            refine TA.pureG 17 rfl (by kernel_rfl) rfl rfl rfl (Yl.move rfl) rfl ?_
            refine TA.pureG 18 rfl (by kernel_rfl) rfl rfl rfl (Yl.lenS Tryz.underlying9 rfl) rfl ?_
            refine TA.pureG 19 rfl (by kernel_rfl) rfl rfl rfl (Yl.move rfl) rfl ?_
            refine TA.quietG 20 rfl (by kernel_rfl) rfl rfl rfl (Cll.func (xs := [_]) (vs := [_]) Tryz.func10 rfl (by kernel_rfl) ⟨rfl, trivial⟩) rfl (Quiet.none (imText_q me (by omega))) ?_
            refine TA.pureG 21 rfl (by kernel_rfl) rfl rfl rfl (Yl.move rfl) rfl ?_
            refine TA.pureG 22 rfl (by kernel_rfl) rfl rfl rfl (Yl.move rfl) rfl ?_
            refine TA.quietG 23 rfl (by kernel_rfl) rfl rfl rfl (Cll.func (xs := [_, _, _, _, _, _, _]) (vs := [_, _, _, _, _, _, _]) Tryz.func9 rfl (by kernel_rfl) ⟨rfl, rfl, rfl, rfl, rfl, rfl, rfl, trivial⟩) rfl (fun g w ho => lvOk_q ea (imT me) es z d _ (1 + k * 8) (by omega) (by omega) ht hzr hok hzl g w (ho.sub (by repeat (first | exact List.Sublist.refl _ | exact List.nil_sublist _ | exact List.sublist_append_right _ _ | refine List.Sublist.cons_cons _ ?_ | refine List.Sublist.append (List.Sublist.refl _) ?_ | refine List.Sublist.cons _ ?_ | refine List.Sublist.trans ?_ (List.sublist_append_right _ _))))) ?_
            refine TA.pure 24 rfl (by kernel_rfl) (Yl.pickT rfl rfl) rfl ?_
            refine TA.pure 25 rfl (by kernel_rfl) (Yl.move rfl) rfl ?_
            refine TA.loadG 26 rfl (by kernel_rfl) rfl rfl rfl (Yl.loadA (vs := hashV (sumH z)) Tryz.underlying29 rfl sz29 rfl (by repeat (first | exact Foc.head | apply Foc.tail | apply Foc.right)) rfl) rfl ?_
            refine TA.loadG 27 rfl (by kernel_rfl) rfl rfl rfl (Yl.loadA (vs := hashV (sumH d)) Tryz.underlying29 rfl sz29 rfl (by repeat (first | exact Foc.head | apply Foc.tail | apply Foc.right)) rfl) rfl ?_
            refine TA.pureG 28 rfl (by kernel_rfl) rfl rfl rfl (Yl.move rfl) rfl ?_
            refine TA.pureG 29 rfl (by kernel_rfl) rfl rfl rfl (Yl.move rfl) rfl ?_
            refine TA.quietG 30 rfl (by kernel_rfl) rfl rfl rfl (Cll.func (xs := [_]) (vs := [_]) Tryz.func10 rfl (by kernel_rfl) ⟨rfl, trivial⟩) rfl (Quiet.none (imText_q me (by omega))) ?_
            refine TA.pureG 31 rfl (by kernel_rfl) rfl rfl rfl (Yl.move rfl) rfl ?_
            refine TA.pureG 32 rfl (by kernel_rfl) rfl rfl rfl (Yl.move rfl) rfl ?_
            refine TA.quietG 33 rfl (by kernel_rfl) rfl rfl rfl (Cll.func (xs := [_, _, _, _, _, _, _]) (vs := [_, _, _, _, _, _, _]) Tryz.func9 rfl (by kernel_rfl) ⟨rfl, rfl, rfl, rfl, rfl, rfl, rfl, trivial⟩) rfl (Quiet.none (lvFast_q (sumH z) (sumH d) (imT me) z d z.length)) ?_
            refine TA.pure 34 rfl (by kernel_rfl) (Yl.pickT rfl rfl) rfl ?_
            refine TA.pure 35 rfl (by kernel_rfl) (Yl.assign rfl) rfl ?_
            refine TA.next (by kernel_rfl) ?_
            exact TC.back1 () rfl rfl (fun _ h => h.sub (by repeat (first | exact List.Sublist.refl _ | exact List.nil_sublist _ | exact List.sublist_append_right _ _ | refine List.Sublist.cons_cons _ ?_ | refine List.Sublist.append (List.Sublist.refl _) ?_ | refine List.Sublist.cons _ ?_ | refine List.Sublist.trans ?_ (List.sublist_append_right _ _))))
    · refine TC.region ?_
      refine TL.val (Yl.move rfl) rfl ?_
      refine TL.val (Yl.move rfl) rfl ?_
      refine TL.val (Yl.move rfl) rfl ?_
      refine TL.val (Yl.addS rfl rfl (by show d.length + 1 ≤ _; omega)) rfl ?_
      refine TL.eff (Eff.lits1 [_, _, _] (vs := [vS d, vS z, vS (d ++ [120])]) Tryz.underlying37 sz9 zr9 rfl ⟨rfl, rfl, rfl, trivial⟩ rfl rfl rfl) rfl fun b35 => ?_
      refine TL.quiet (Cll.func (xs := [_]) (vs := [_]) Tryz.func7 rfl (by kernel_rfl) ⟨rfl, trivial⟩) rfl (fun g w ho => apart_q [d, z, d ++ [120]] 3 rfl (by omega) h3n (by intro y hy; simp only [List.mem_cons, List.not_mem_nil, or_false] at hy; rcases hy with rfl | rfl | rfl <;> omega) b35 g w (ho.sub (.cons_cons _ (List.nil_sublist _)))) ?_
      rw [decide_eq_false hnd]
      refine TL.val (Yl.not rfl) rfl ?_
      refine TL.next ?_
      refine TC.yes rfl ?_
      refine TC.seq ?_
      refine TC.region ?_
      refine TL.val (Yl.assign rfl) rfl ?_
      refine TL.next ?_
      exact TC.back1 () rfl rfl (fun _ h => h.sub (by repeat (first | exact List.Sublist.refl _ | exact List.nil_sublist _ | exact List.sublist_append_right _ _ | refine List.Sublist.cons_cons _ ?_ | refine List.Sublist.append (List.Sublist.refl _) ?_ | refine List.Sublist.cons _ ?_ | refine List.Sublist.trans ?_ (List.sublist_append_right _ _))))
end Go.Proofs.YtlhncphipfkkjaaGreatDoor

namespace Go.Proofs.YtlhncphipfkkjaaGreatDoor
open Go
set_option maxHeartbeats 2000000 in
theorem fn_g {tE : TypeId} {fE : Nat × Nat} (ea : Addr) (ws : List UInt16) (n : Nat) (hn : ws.length = n) (hn2 : n ≤ 9223372036854775807) (b off cap : Nat) (cs : List Value) (hcap : n ≤ cap) (hcs : (cs.drop off).take n = ws.map u16V) (me : List UInt8) (hme : me.length ≤ 9223372036854775807) (w k : Nat) (hw : w < 256) (hk : k < 256) (es : List TE) (hes : es = entL (ws.take (Nat.min n 8))) (ht : TarOf es (tarT es)) (g : World) (Fr : HL) : Gives Tryz.prog 3 #[sl b off n cap, vS me, .int .u8 (w : Int), .int .u8 (k : Int)] g ((b, .cells ⟨cs⟩ tE fE) :: eofB ea :: Fr) Unit (fun _ => .bool true) (fun _ => (b, .cells ⟨cs⟩ tE fE) :: eofB ea :: Fr) := by
  refine Gives.enter Tryz.func3 rfl Tryz.ntmps3 rfl ?_
  have hE : ∀ e ∈ es, e.name.length ≤ 100 ∧ e.data.length ≤ 10000 ∧ e.mode ≤ 1000000 := fun e he => by
    obtain ⟨⟨h1, h2, h3, h4, _⟩, _⟩ := ht.good e he
    exact ⟨by omega, by omega, by omega⟩
  have hl8 := ht.len
  have hds := ht.small
  have hd0 : 0 < (tarT es).length := by have := ht.dlen; omega
  have hzl : (gz (tarT es) (1 + k * 8)).length ≤ 1000000000 := by
    have h1 := gz_length (tarT es) (1 + k * 8)
    have h2 : ((tarT es).length + 1) * (5 + (1 + k * 8)) ≤ 20001 * 2054 := Nat.mul_le_mul (by omega) (by omega)
    omega
  have hok := gzOk0 (tarT es) (1 + k * 8) hd0
  have h3n := three_nodup es ht.good (1 + k * 8)
  have hzr : gz (tarT es) (1 + k * 8) = gzHead ++ gzR (tarT es) (1 + k * 8) ((tarT es).length + 1) 0 := rfl
  refine TC.seq ?_
  refine TC.region ?_
  refine TL.val (Yl.assign rfl) rfl ?_
  refine TL.next ?_
  refine TC.seq ?_
  refine TC.seq ?_
  by_cases hbig : 2147483647 < n
  · refine TC.region ?_
    refine TL.val (Yl.move rfl) rfl ?_
    refine TL.val (Yl.lenL Tryz.underlying22 rfl) rfl ?_
    refine TL.val (Yl.gtr rfl rfl (decide_eq_true (by omega))) rfl ?_
    refine TL.val (Yl.move rfl) rfl ?_
    refine TL.no rfl rfl rfl rfl rfl ?_
    refine TL.no rfl rfl rfl rfl rfl ?_
    refine TL.no rfl rfl rfl rfl rfl ?_
    refine TL.val (Yl.pickT rfl rfl) rfl ?_
    refine TL.next ?_
    refine TC.yes rfl ?_
    refine TC.seq ?_
    refine TC.region ?_
    refine TL.val (Yl.assign rfl) rfl ?_
    refine TL.next ?_
    exact TC.back1 () rfl rfl (fun _ h => h.sub (by repeat (first | exact List.Sublist.refl _ | exact List.nil_sublist _ | exact List.sublist_append_right _ _ | refine List.Sublist.cons_cons _ ?_ | refine List.Sublist.append (List.Sublist.refl _) ?_ | refine List.Sublist.cons _ ?_ | refine List.Sublist.trans ?_ (List.sublist_append_right _ _))))
  · refine TC.region ?_
    refine TL.val (Yl.move rfl) rfl ?_
    refine TL.val (Yl.lenL Tryz.underlying22 rfl) rfl ?_
    refine TL.val (Yl.gtr rfl rfl (decide_eq_false (by omega))) rfl ?_
    refine TL.val (Yl.move rfl) rfl ?_
    refine TL.yes rfl rfl rfl ?_
    refine TL.val (Yl.move rfl) rfl ?_
    refine TL.yes rfl rfl rfl ?_
    refine TL.val (Yl.lenS Tryz.underlying9 rfl) rfl ?_
    refine TL.yes rfl rfl rfl ?_
    refine TL.val (Yl.gtr rfl rfl rfl) rfl ?_
    refine TL.val (Yl.pickF rfl rfl) rfl ?_
    refine TL.next ?_
    refine TC.cond rfl (fun hc21 => ?_) (fun hc21 => ?_)
    · replace hc21 := of_decide_eq_true hc21
      refine TC.seq ?_
      refine TC.region ?_
      refine TL.val (Yl.assign rfl) rfl ?_
      refine TL.next ?_
      exact TC.back1 () rfl rfl (fun _ h => h.sub (by repeat (first | exact List.Sublist.refl _ | exact List.nil_sublist _ | exact List.sublist_append_right _ _ | refine List.Sublist.cons_cons _ ?_ | refine List.Sublist.append (List.Sublist.refl _) ?_ | refine List.Sublist.cons _ ?_ | refine List.Sublist.trans ?_ (List.sublist_append_right _ _))))
    · replace hc21 := of_decide_eq_false hc21
      refine TC.skip_next ?_
      refine TC.seq ?_
      refine TC.region ?_
      refine TL.val (Yl.move rfl) rfl ?_
      refine TL.call (Cll.func (xs := [_]) (vs := [_]) Tryz.func5 rfl (by kernel_rfl) ⟨rfl, trivial⟩) rfl (tarEntries_g ws n hn hn2 b off cap cs hcap hcs g (eofB ea :: Fr)) fun p => ?_
      obtain ⟨⟨v, H1⟩, hv⟩ := p
      dsimp only at hv ⊢
      rw [← hes] at hv
      refine TL.quiet (Cll.func (xs := [_]) (vs := [_]) Tryz.func4 rfl (by kernel_rfl) ⟨rfl, trivial⟩) rfl (fun g w ho => tarWrite_q es v H1 hv (by omega) hE g w (ho.sub (List.sublist_append_left _ _))) ?_
      refine TL.val (Yl.assign rfl) rfl ?_
      refine TL.next ?_
      refine TC.seq ?_
      refine TC.heap (H' := (b, .cells ⟨cs⟩ tE fE) :: eofB ea :: Fr) (fun _ h => h.sub (List.sublist_append_right _ _)) ?_
      generalize tarT es = d at *
      refine TC.region ?_
      refine TL.val (Yl.move rfl) rfl ?_
      refine TL.val (Yl.move rfl) rfl ?_
      refine TL.val (Yl.conv Tryz.underlying5 Tryz.underlying3 rfl (wI (by omega))) rfl ?_
      refine TL.val (Yl.mul (r := ((k * 8 : Nat) : Int)) rfl rfl (by rw [wI (by omega)]; omega)) rfl ?_
      refine TL.val (Yl.add (r := ((1 + k * 8 : Nat) : Int)) rfl rfl (by rw [wI (by omega)]; omega)) rfl ?_
      refine TL.quiet (Cll.func (xs := [_, _]) (vs := [_, _]) Tryz.func6 rfl (by kernel_rfl) ⟨rfl, rfl, trivial⟩) rfl (Quiet.none (gzip_q d (1 + k * 8) (by omega) (by omega) (by omega))) ?_
      refine TL.val (Yl.assign rfl) rfl ?_
      refine TL.next ?_
      refine TC.seq ?_
      refine TC.seq ?_
      generalize gz d (1 + k * 8) = z at *
      have hxl : (d ++ [120]).length = d.length + 1 := List.length_append
      by_cases hnd : (([d, z, d ++ [120]] : List (List UInt8)).map sumH).Nodup
      · refine TC.region ?_
        refine TL.val (Yl.move rfl) rfl ?_
        refine TL.val (Yl.move rfl) rfl ?_
        refine TL.val (Yl.move rfl) rfl ?_
        refine TL.val (Yl.addS rfl rfl (by show d.length + 1 ≤ _; omega)) rfl ?_
        refine TL.eff (Eff.lits1 [_, _, _] (vs := [vS d, vS z, vS (d ++ [120])]) Tryz.underlying37 sz9 zr9 rfl ⟨rfl, rfl, rfl, trivial⟩ rfl rfl rfl) rfl fun b35 => ?_
        refine TL.quiet (Cll.func (xs := [_]) (vs := [_]) Tryz.func7 rfl (by kernel_rfl) ⟨rfl, trivial⟩) rfl (fun g w ho => apart_q [d, z, d ++ [120]] 3 rfl (by omega) h3n (by intro y hy; simp only [List.mem_cons, List.not_mem_nil, or_false] at hy; rcases hy with rfl | rfl | rfl <;> omega) b35 g w (ho.sub (.cons_cons _ (List.nil_sublist _)))) ?_
        rw [decide_eq_true hnd]
        refine TL.val (Yl.not rfl) rfl ?_
        refine TL.next ?_
        refine TC.no rfl ?_
        refine TC.skip_next ?_
        refine TC.seq ?_
        have hd1 : sumH (d ++ [120]) ≠ sumH z := fun e => by
          simp only [List.map_cons, List.map_nil, List.nodup_cons, List.mem_cons, List.not_mem_nil, or_false] at hnd
          exact hnd.2.1 e.symm
        have hd2 : sumH (d ++ [120]) ≠ sumH d := fun e => by
          simp only [List.map_cons, List.map_nil, List.nodup_cons, List.mem_cons, List.not_mem_nil, or_false] at hnd
          exact hnd.1 (.inr e.symm)
        refine TC.region ?_
        refine TL.val (Yl.move rfl) rfl ?_
        refine TL.quiet (Cll.func (xs := [_]) (vs := [_]) Tryz.func8 rfl (by kernel_rfl) ⟨rfl, trivial⟩) rfl (Quiet.none (sum_q z (by omega))) ?_
        refine TL.val (Yl.move rfl) rfl ?_
        refine TL.quiet (Cll.func (xs := [_]) (vs := [_]) Tryz.func8 rfl (by kernel_rfl) ⟨rfl, trivial⟩) rfl (Quiet.none (sum_q d (by omega))) ?_
        refine TL.val (Yl.move rfl) rfl ?_
        refine TL.val (Yl.lenS Tryz.underlying9 rfl) rfl ?_
        refine TL.eff (Eff.alloc zr29 rfl) rfl fun b11 => ?_
        refine TL.eff (Eff.alloc zr29 rfl) rfl fun b12 => ?_
        refine TL.skp (Skp.storeA (vs := hashV (sumH z)) sz29 rfl rfl rfl (by repeat (first | exact Foc.head | apply Foc.tail | apply Foc.right)) (Nat.le_of_ble_eq_true rfl) rfl) ?_
        refine TL.skp (Skp.storeA (vs := hashV (sumH d)) sz29 rfl rfl rfl (by repeat (first | exact Foc.head | apply Foc.tail | apply Foc.right)) (Nat.le_of_ble_eq_true rfl) rfl) ?_
        refine TL.val (Yl.assign rfl) rfl ?_
        refine TL.next ?_
        refine TC.seq ?_
        refine TC.seq ?_
        refine TC.region ?_
        refine TL.val (Yl.move rfl) rfl ?_
        refine TL.val (Yl.rem (r := ((w % 4 : Nat) : Int)) rfl rfl (by omega) (by omega) (by omega)) rfl ?_
        refine TL.next ?_
        refine TC.block ?_
        refine TC.seq ?_
        refine TC.region ?_
        refine TL.val (Yl.eql rfl rfl rfl) rfl ?_
        refine TL.val (Yl.assign rfl) rfl ?_
        refine TL.next ?_
        refine TC.cond rfl (fun hc46 => ?_) (fun hc46 => ?_)
        · replace hc46 := of_decide_eq_true hc46
          refine TC.region ?_
          refine TL.val (Yl.move rfl) rfl ?_
          refine TL.val (Yl.addS rfl rfl (by show d.length + 1 ≤ _; omega)) rfl ?_
          refine TL.quiet (Cll.func (xs := [_]) (vs := [_]) Tryz.func8 rfl (by kernel_rfl) ⟨rfl, trivial⟩) rfl (Quiet.none (sum_q (d ++ [120]) (by omega))) ?_
          refine TL.skp (Skp.storeA (vs := hashV (sumH (d ++ [120]))) sz29 rfl rfl rfl (by repeat (first | exact Foc.head | apply Foc.tail | apply Foc.right)) (Nat.le_of_ble_eq_true rfl) rfl) ?_
          refine TL.next ?_
          refine TC.seq ?_
          refine TC.draws [] _ mixed (by kernel_rfl) rfl (fun _ h => h) ?_
          refine TA.load 0 rfl (by kernel_rfl) (Yl.loadA (vs := hashV (sumH (d ++ [120]))) Tryz.underlying29 rfl sz29 rfl (by repeat (first | exact Foc.head | apply Foc.tail | apply Foc.right)) rfl) rfl ?_
          refine TA.load 1 rfl (by kernel_rfl) (Yl.loadA (vs := hashV (sumH d)) Tryz.underlying29 rfl sz29 rfl (by repeat (first | exact Foc.head | apply Foc.tail | apply Foc.right)) rfl) rfl ?_
          refine TA.pure 2 rfl (by kernel_rfl) (Yl.move rfl) rfl ?_
          refine TA.pure 3 rfl (by kernel_rfl) (Yl.move rfl) rfl ?_
          refine TA.quiet 4 rfl (by kernel_rfl) (Cll.func (xs := [_]) (vs := [_]) Tryz.func10 rfl (by kernel_rfl) ⟨rfl, trivial⟩) rfl (Quiet.none (imText_q me (by omega))) ?_
          refine TA.pure 5 rfl (by kernel_rfl) (Yl.move rfl) rfl ?_
          refine TA.pure 6 rfl (by kernel_rfl) (Yl.move rfl) rfl ?_
          refine TA.quiet 7 rfl (by kernel_rfl) (Cll.func (xs := [_, _, _, _, _, _, _]) (vs := [_, _, _, _, _, _, _]) Tryz.func9 rfl (by kernel_rfl) ⟨rfl, rfl, rfl, rfl, rfl, rfl, rfl, trivial⟩) rfl (fun g w ho => lvDg_q ea (imT me) es z d _ (1 + k * 8) (by omega) (by omega) ht hzr hok hzl _ hd1 g w (ho.sub (by repeat (first | exact List.Sublist.refl _ | exact List.nil_sublist _ | exact List.sublist_append_right _ _ | refine List.Sublist.cons_cons _ ?_ | refine List.Sublist.append (List.Sublist.refl _) ?_ | refine List.Sublist.cons _ ?_ | refine List.Sublist.trans ?_ (List.sublist_append_right _ _))))) ?_
          refine TA.pure 8 rfl (by kernel_rfl) (Yl.move rfl) rfl ?_
          refine TA.pure 9 rfl (by kernel_rfl) (Yl.rem (r := ((w % 4 : Nat) : Int)) rfl rfl (by omega) (by omega) (by omega)) rfl ?_
          refine TA.pure 10 rfl (by kernel_rfl) (Yl.eql rfl rfl (decide_eq_false (by omega))) rfl ?_
          refine TA.pure 11 rfl (by kernel_rfl) (Yl.eqlB Tryz.underlying4 rfl rfl) rfl ?_
          refine TA.pure 12 rfl (by kernel_rfl) (Yl.move rfl) rfl ?_
          refine TA.pureG 13 rfl (by kernel_rfl) rfl rfl rfl (Yl.move rfl) rfl ?_
          refine TA.quietG 14 rfl (by kernel_rfl) rfl rfl rfl (Cll.func (xs := [_]) (vs := [_]) Tryz.func8 rfl (by kernel_rfl) ⟨rfl, trivial⟩) rfl (Quiet.none (sum_q z (by omega))) ?_
          refine TA.pureG 15 rfl (by kernel_rfl) rfl rfl rfl (Yl.move rfl) rfl ?_
          refine TA.quietG 16 rfl (by kernel_rfl) rfl rfl rfl (Cll.func (xs := [_]) (vs := [_]) Tryz.func8 rfl (by kernel_rfl) ⟨rfl, trivial⟩) rfl (Quiet.none (sum_q d (by omega))) ?_
          refine TA.pureG 17 rfl (by kernel_rfl) rfl rfl rfl (Yl.move rfl) rfl ?_
          refine TA.pureG 18 rfl (by kernel_rfl) rfl rfl rfl (Yl.lenS Tryz.underlying9 rfl) rfl ?_
          refine TA.pureG 19 rfl (by kernel_rfl) rfl rfl rfl (Yl.move rfl) rfl ?_
          refine TA.quietG 20 rfl (by kernel_rfl) rfl rfl rfl (Cll.func (xs := [_]) (vs := [_]) Tryz.func10 rfl (by kernel_rfl) ⟨rfl, trivial⟩) rfl (Quiet.none (imText_q me (by omega))) ?_
          refine TA.pureG 21 rfl (by kernel_rfl) rfl rfl rfl (Yl.move rfl) rfl ?_
          refine TA.pureG 22 rfl (by kernel_rfl) rfl rfl rfl (Yl.move rfl) rfl ?_
          refine TA.quietG 23 rfl (by kernel_rfl) rfl rfl rfl (Cll.func (xs := [_, _, _, _, _, _, _]) (vs := [_, _, _, _, _, _, _]) Tryz.func9 rfl (by kernel_rfl) ⟨rfl, rfl, rfl, rfl, rfl, rfl, rfl, trivial⟩) rfl (fun g w ho => lvOk_q ea (imT me) es z d _ (1 + k * 8) (by omega) (by omega) ht hzr hok hzl g w (ho.sub (by repeat (first | exact List.Sublist.refl _ | exact List.nil_sublist _ | exact List.sublist_append_right _ _ | refine List.Sublist.cons_cons _ ?_ | refine List.Sublist.append (List.Sublist.refl _) ?_ | refine List.Sublist.cons _ ?_ | refine List.Sublist.trans ?_ (List.sublist_append_right _ _))))) ?_
          refine TA.pure 24 rfl (by kernel_rfl) (Yl.pickT rfl rfl) rfl ?_
          refine TA.pure 25 rfl (by kernel_rfl) (Yl.move rfl) rfl ?_
          refine TA.loadG 26 rfl (by kernel_rfl) rfl rfl rfl (Yl.loadA (vs := hashV (sumH (d ++ [120]))) Tryz.underlying29 rfl sz29 rfl (by repeat (first | exact Foc.head | apply Foc.tail | apply Foc.right)) rfl) rfl ?_
          refine TA.loadG 27 rfl (by kernel_rfl) rfl rfl rfl (Yl.loadA (vs := hashV (sumH d)) Tryz.underlying29 rfl sz29 rfl (by repeat (first | exact Foc.head | apply Foc.tail | apply Foc.right)) rfl) rfl ?_
          refine TA.pureG 28 rfl (by kernel_rfl) rfl rfl rfl (Yl.move rfl) rfl ?_
          refine TA.pureG 29 rfl (by kernel_rfl) rfl rfl rfl (Yl.move rfl) rfl ?_
          refine TA.quietG 30 rfl (by kernel_rfl) rfl rfl rfl (Cll.func (xs := [_]) (vs := [_]) Tryz.func10 rfl (by kernel_rfl) ⟨rfl, trivial⟩) rfl (Quiet.none (imText_q me (by omega))) ?_
          refine TA.pureG 31 rfl (by kernel_rfl) rfl rfl rfl (Yl.move rfl) rfl ?_
          refine TA.pureG 32 rfl (by kernel_rfl) rfl rfl rfl (Yl.move rfl) rfl ?_
          refine TA.quietG 33 rfl (by kernel_rfl) rfl rfl rfl (Cll.func (xs := [_, _, _, _, _, _, _]) (vs := [_, _, _, _, _, _, _]) Tryz.func9 rfl (by kernel_rfl) ⟨rfl, rfl, rfl, rfl, rfl, rfl, rfl, trivial⟩) rfl (Quiet.none (lvFast_q (sumH (d ++ [120])) (sumH d) (imT me) z d z.length)) ?_
          refine TA.pure 34 rfl (by kernel_rfl) (Yl.pickT rfl rfl) rfl ?_
          refine TA.pure 35 rfl (by kernel_rfl) (Yl.assign rfl) rfl ?_
          refine TA.next (by kernel_rfl) ?_
          exact TC.back1 () rfl rfl (fun _ h => h.sub (by repeat (first | exact List.Sublist.refl _ | exact List.nil_sublist _ | exact List.sublist_append_right _ _ | refine List.Sublist.cons_cons _ ?_ | refine List.Sublist.append (List.Sublist.refl _) ?_ | refine List.Sublist.cons _ ?_ | refine List.Sublist.trans ?_ (List.sublist_append_right _ _))))
        · replace hc46 := of_decide_eq_false hc46
          refine TC.seq ?_
          refine TC.region ?_
          refine TL.val (Yl.eql rfl rfl rfl) rfl ?_
          refine TL.val (Yl.assign rfl) rfl ?_
          refine TL.next ?_
          refine TC.cond rfl (fun hc51 => ?_) (fun hc51 => ?_)
          · replace hc51 := of_decide_eq_true hc51
            refine TC.region ?_
            refine TL.val (Yl.move rfl) rfl ?_
            refine TL.val (Yl.addS rfl rfl (by show d.length + 1 ≤ _; omega)) rfl ?_
            refine TL.quiet (Cll.func (xs := [_]) (vs := [_]) Tryz.func8 rfl (by kernel_rfl) ⟨rfl, trivial⟩) rfl (Quiet.none (sum_q (d ++ [120]) (by omega))) ?_
            refine TL.skp (Skp.storeA (vs := hashV (sumH (d ++ [120]))) sz29 rfl rfl rfl (by repeat (first | exact Foc.head | apply Foc.tail | apply Foc.right)) (Nat.le_of_ble_eq_true rfl) rfl) ?_
            refine TL.next ?_
            refine TC.seq ?_
            refine TC.draws [] _ mixed (by kernel_rfl) rfl (fun _ h => h) ?_
            refine TA.load 0 rfl (by kernel_rfl) (Yl.loadA (vs := hashV (sumH z)) Tryz.underlying29 rfl sz29 rfl (by repeat (first | exact Foc.head | apply Foc.tail | apply Foc.right)) rfl) rfl ?_
            refine TA.load 1 rfl (by kernel_rfl) (Yl.loadA (vs := hashV (sumH (d ++ [120]))) Tryz.underlying29 rfl sz29 rfl (by repeat (first | exact Foc.head | apply Foc.tail | apply Foc.right)) rfl) rfl ?_
            refine TA.pure 2 rfl (by kernel_rfl) (Yl.move rfl) rfl ?_
            refine TA.pure 3 rfl (by kernel_rfl) (Yl.move rfl) rfl ?_
            refine TA.quiet 4 rfl (by kernel_rfl) (Cll.func (xs := [_]) (vs := [_]) Tryz.func10 rfl (by kernel_rfl) ⟨rfl, trivial⟩) rfl (Quiet.none (imText_q me (by omega))) ?_
            refine TA.pure 5 rfl (by kernel_rfl) (Yl.move rfl) rfl ?_
            refine TA.pure 6 rfl (by kernel_rfl) (Yl.move rfl) rfl ?_
            refine TA.quiet 7 rfl (by kernel_rfl) (Cll.func (xs := [_, _, _, _, _, _, _]) (vs := [_, _, _, _, _, _, _]) Tryz.func9 rfl (by kernel_rfl) ⟨rfl, rfl, rfl, rfl, rfl, rfl, rfl, trivial⟩) rfl (fun g w ho => lvDf_q ea (imT me) es z d _ (1 + k * 8) (by omega) (by omega) ht hzr hok hzl _ hd2 g w (ho.sub (by repeat (first | exact List.Sublist.refl _ | exact List.nil_sublist _ | exact List.sublist_append_right _ _ | refine List.Sublist.cons_cons _ ?_ | refine List.Sublist.append (List.Sublist.refl _) ?_ | refine List.Sublist.cons _ ?_ | refine List.Sublist.trans ?_ (List.sublist_append_right _ _))))) ?_
            refine TA.pure 8 rfl (by kernel_rfl) (Yl.move rfl) rfl ?_
            refine TA.pure 9 rfl (by kernel_rfl) (Yl.rem (r := ((w % 4 : Nat) : Int)) rfl rfl (by omega) (by omega) (by omega)) rfl ?_
            refine TA.pure 10 rfl (by kernel_rfl) (Yl.eql rfl rfl (decide_eq_false (by omega))) rfl ?_
            refine TA.pure 11 rfl (by kernel_rfl) (Yl.eqlB Tryz.underlying4 rfl rfl) rfl ?_
            refine TA.pure 12 rfl (by kernel_rfl) (Yl.move rfl) rfl ?_
            refine TA.pureG 13 rfl (by kernel_rfl) rfl rfl rfl (Yl.move rfl) rfl ?_
            refine TA.quietG 14 rfl (by kernel_rfl) rfl rfl rfl (Cll.func (xs := [_]) (vs := [_]) Tryz.func8 rfl (by kernel_rfl) ⟨rfl, trivial⟩) rfl (Quiet.none (sum_q z (by omega))) ?_
            refine TA.pureG 15 rfl (by kernel_rfl) rfl rfl rfl (Yl.move rfl) rfl ?_
            refine TA.quietG 16 rfl (by kernel_rfl) rfl rfl rfl (Cll.func (xs := [_]) (vs := [_]) Tryz.func8 rfl (by kernel_rfl) ⟨rfl, trivial⟩) rfl (Quiet.none (sum_q d (by omega))) ?_
            refine TA.pureG 17 rfl (by kernel_rfl) rfl rfl rfl (Yl.move rfl) rfl ?_
            refine TA.pureG 18 rfl (by kernel_rfl) rfl rfl rfl (Yl.lenS Tryz.underlying9 rfl) rfl ?_
            refine TA.pureG 19 rfl (by kernel_rfl) rfl rfl rfl (Yl.move rfl) rfl ?_
            refine TA.quietG 20 rfl (by kernel_rfl) rfl rfl rfl (Cll.func (xs := [_]) (vs := [_]) Tryz.func10 rfl (by kernel_rfl) ⟨rfl, trivial⟩) rfl (Quiet.none (imText_q me (by omega))) ?_
            refine TA.pureG 21 rfl (by kernel_rfl) rfl rfl rfl (Yl.move rfl) rfl ?_
            refine TA.pureG 22 rfl (by kernel_rfl) rfl rfl rfl (Yl.move rfl) rfl ?_
            refine TA.quietG 23 rfl (by kernel_rfl) rfl rfl rfl (Cll.func (xs := [_, _, _, _, _, _, _]) (vs := [_, _, _, _, _, _, _]) Tryz.func9 rfl (by kernel_rfl) ⟨rfl, rfl, rfl, rfl, rfl, rfl, rfl, trivial⟩) rfl (fun g w ho => lvOk_q ea (imT me) es z d _ (1 + k * 8) (by omega) (by omega) ht hzr hok hzl g w (ho.sub (by repeat (first | exact List.Sublist.refl _ | exact List.nil_sublist _ | exact List.sublist_append_right _ _ | refine List.Sublist.cons_cons _ ?_ | refine List.Sublist.append (List.Sublist.refl _) ?_ | refine List.Sublist.cons _ ?_ | refine List.Sublist.trans ?_ (List.sublist_append_right _ _))))) ?_
            refine TA.pure 24 rfl (by kernel_rfl) (Yl.pickT rfl rfl) rfl ?_
            refine TA.pure 25 rfl (by kernel_rfl) (Yl.move rfl) rfl ?_
            refine TA.loadG 26 rfl (by kernel_rfl) rfl rfl rfl (Yl.loadA (vs := hashV (sumH z)) Tryz.underlying29 rfl sz29 rfl (by repeat (first | exact Foc.head | apply Foc.tail | apply Foc.right)) rfl) rfl ?_
            refine TA.loadG 27 rfl (by kernel_rfl) rfl rfl rfl (Yl.loadA (vs := hashV (sumH (d ++ [120]))) Tryz.underlying29 rfl sz29 rfl (by repeat (first | exact Foc.head | apply Foc.tail | apply Foc.right)) rfl) rfl ?_
            refine TA.pureG 28 rfl (by kernel_rfl) rfl rfl rfl (Yl.move rfl) rfl ?_
            refine TA.pureG 29 rfl (by kernel_rfl) rfl rfl rfl (Yl.move rfl) rfl ?_
            refine TA.quietG 30 rfl (by kernel_rfl) rfl rfl rfl (Cll.func (xs := [_]) (vs := [_]) Tryz.func10 rfl (by kernel_rfl) ⟨rfl, trivial⟩) rfl (Quiet.none (imText_q me (by omega))) ?_
            refine TA.pureG 31 rfl (by kernel_rfl) rfl rfl rfl (Yl.move rfl) rfl ?_
            refine TA.pureG 32 rfl (by kernel_rfl) rfl rfl rfl (Yl.move rfl) rfl ?_
            refine TA.quietG 33 rfl (by kernel_rfl) rfl rfl rfl (Cll.func (xs := [_, _, _, _, _, _, _]) (vs := [_, _, _, _, _, _, _]) Tryz.func9 rfl (by kernel_rfl) ⟨rfl, rfl, rfl, rfl, rfl, rfl, rfl, trivial⟩) rfl (Quiet.none (lvFast_q (sumH z) (sumH (d ++ [120])) (imT me) z d z.length)) ?_
            refine TA.pure 34 rfl (by kernel_rfl) (Yl.pickT rfl rfl) rfl ?_
            refine TA.pure 35 rfl (by kernel_rfl) (Yl.assign rfl) rfl ?_
            refine TA.next (by kernel_rfl) ?_
            exact TC.back1 () rfl rfl (fun _ h => h.sub (by repeat (first | exact List.Sublist.refl _ | exact List.nil_sublist _ | exact List.sublist_append_right _ _ | refine List.Sublist.cons_cons _ ?_ | refine List.Sublist.append (List.Sublist.refl _) ?_ | refine List.Sublist.cons _ ?_ | refine List.Sublist.trans ?_ (List.sublist_append_right _ _))))
          · replace hc51 := of_decide_eq_false hc51
            refine TC.seq ?_
            refine TC.region ?_
            refine TL.val (Yl.eql rfl rfl rfl) rfl ?_
            refine TL.val (Yl.assign rfl) rfl ?_
            refine TL.next ?_
            refine TC.cond rfl (fun hc56 => ?_) (fun hc56 => ?_)
            · replace hc56 := of_decide_eq_true hc56
              refine TC.region ?_
              refine TL.val (Yl.move rfl) rfl ?_
              refine TL.val (Yl.add (r := ((z.length + 1 : Nat) : Int)) rfl rfl (by rw [wI (by omega)]; omega)) rfl ?_
              refine TL.val (Yl.assign rfl) rfl ?_
              refine TL.next ?_
              refine TC.seq ?_
              refine TC.draws [] _ mixed (by kernel_rfl) rfl (fun _ h => h) ?_
              refine TA.load 0 rfl (by kernel_rfl) (Yl.loadA (vs := hashV (sumH z)) Tryz.underlying29 rfl sz29 rfl (by repeat (first | exact Foc.head | apply Foc.tail | apply Foc.right)) rfl) rfl ?_
              refine TA.load 1 rfl (by kernel_rfl) (Yl.loadA (vs := hashV (sumH d)) Tryz.underlying29 rfl sz29 rfl (by repeat (first | exact Foc.head | apply Foc.tail | apply Foc.right)) rfl) rfl ?_
              refine TA.pure 2 rfl (by kernel_rfl) (Yl.move rfl) rfl ?_
              refine TA.pure 3 rfl (by kernel_rfl) (Yl.move rfl) rfl ?_
              refine TA.quiet 4 rfl (by kernel_rfl) (Cll.func (xs := [_]) (vs := [_]) Tryz.func10 rfl (by kernel_rfl) ⟨rfl, trivial⟩) rfl (Quiet.none (imText_q me (by omega))) ?_
              refine TA.pure 5 rfl (by kernel_rfl) (Yl.move rfl) rfl ?_
              refine TA.pure 6 rfl (by kernel_rfl) (Yl.move rfl) rfl ?_
              refine TA.quiet 7 rfl (by kernel_rfl) (Cll.func (xs := [_, _, _, _, _, _, _]) (vs := [_, _, _, _, _, _, _]) Tryz.func9 rfl (by kernel_rfl) ⟨rfl, rfl, rfl, rfl, rfl, rfl, rfl, trivial⟩) rfl (fun g w ho => lvN_q ea (imT me) es z d _ (1 + k * 8) (by omega) (by omega) ht hzr hok hzl g w (ho.sub (by repeat (first | exact List.Sublist.refl _ | exact List.nil_sublist _ | exact List.sublist_append_right _ _ | refine List.Sublist.cons_cons _ ?_ | refine List.Sublist.append (List.Sublist.refl _) ?_ | refine List.Sublist.cons _ ?_ | refine List.Sublist.trans ?_ (List.sublist_append_right _ _))))) ?_
              refine TA.pure 8 rfl (by kernel_rfl) (Yl.move rfl) rfl ?_
              refine TA.pure 9 rfl (by kernel_rfl) (Yl.rem (r := ((w % 4 : Nat) : Int)) rfl rfl (by omega) (by omega) (by omega)) rfl ?_
              refine TA.pure 10 rfl (by kernel_rfl) (Yl.eql rfl rfl (decide_eq_false (by omega))) rfl ?_
              refine TA.pure 11 rfl (by kernel_rfl) (Yl.eqlB Tryz.underlying4 rfl rfl) rfl ?_
              refine TA.pure 12 rfl (by kernel_rfl) (Yl.move rfl) rfl ?_
              refine TA.pureG 13 rfl (by kernel_rfl) rfl rfl rfl (Yl.move rfl) rfl ?_
              refine TA.quietG 14 rfl (by kernel_rfl) rfl rfl rfl (Cll.func (xs := [_]) (vs := [_]) Tryz.func8 rfl (by kernel_rfl) ⟨rfl, trivial⟩) rfl (Quiet.none (sum_q z (by omega))) ?_
              refine TA.pureG 15 rfl (by kernel_rfl) rfl rfl rfl (Yl.move rfl) rfl ?_
              refine TA.quietG 16 rfl (by kernel_rfl) rfl rfl rfl (Cll.func (xs := [_]) (vs := [_]) Tryz.func8 rfl (by kernel_rfl) ⟨rfl, trivial⟩) rfl (Quiet.none (sum_q d (by omega))) ?_
              refine TA.pureG 17 rfl (by kernel_rfl) rfl rfl rfl (Yl.move rfl) rfl ?_
              refine TA.pureG 18 rfl (by kernel_rfl) rfl rfl rfl (Yl.lenS Tryz.underlying9 rfl) rfl ?_
              refine TA.pureG 19 rfl (by kernel_rfl) rfl rfl rfl (Yl.move rfl) rfl ?_
              refine TA.quietG 20 rfl (by kernel_rfl) rfl rfl rfl (Cll.func (xs := [_]) (vs := [_]) Tryz.func10 rfl (by kernel_rfl) ⟨rfl, trivial⟩) rfl (Quiet.none (imText_q me (by omega))) ?_
              refine TA.pureG 21 rfl (by kernel_rfl) rfl rfl rfl (Yl.move rfl) rfl ?_
              refine TA.pureG 22 rfl (by kernel_rfl) rfl rfl rfl (Yl.move rfl) rfl ?_
              refine TA.quietG 23 rfl (by kernel_rfl) rfl rfl rfl (Cll.func (xs := [_, _, _, _, _, _, _]) (vs := [_, _, _, _, _, _, _]) Tryz.func9 rfl (by kernel_rfl) ⟨rfl, rfl, rfl, rfl, rfl, rfl, rfl, trivial⟩) rfl (fun g w ho => lvOk_q ea (imT me) es z d _ (1 + k * 8) (by omega) (by omega) ht hzr hok hzl g w (ho.sub (by repeat (first | exact List.Sublist.refl _ | exact List.nil_sublist _ | exact List.sublist_append_right _ _ | refine List.Sublist.cons_cons _ ?_ | refine List.Sublist.append (List.Sublist.refl _) ?_ | refine List.Sublist.cons _ ?_ | refine List.Sublist.trans ?_ (List.sublist_append_right _ _))))) ?_
              refine TA.pure 24 rfl (by kernel_rfl) (Yl.pickT rfl rfl) rfl ?_
              refine TA.pure 25 rfl (by kernel_rfl) (Yl.move rfl) rfl ?_
              refine TA.loadG 26 rfl (by kernel_rfl) rfl rfl rfl (Yl.loadA (vs := hashV (sumH z)) Tryz.underlying29 rfl sz29 rfl (by repeat (first | exact Foc.head | apply Foc.tail | apply Foc.right)) rfl) rfl ?_
              refine TA.loadG 27 rfl (by kernel_rfl) rfl rfl rfl (Yl.loadA (vs := hashV (sumH d)) Tryz.underlying29 rfl sz29 rfl (by repeat (first | exact Foc.head | apply Foc.tail | apply Foc.right)) rfl) rfl ?_
              refine TA.pureG 28 rfl (by kernel_rfl) rfl rfl rfl (Yl.move rfl) rfl ?_
              refine TA.pureG 29 rfl (by kernel_rfl) rfl rfl rfl (Yl.move rfl) rfl ?_
              refine TA.quietG 30 rfl (by kernel_rfl) rfl rfl rfl (Cll.func (xs := [_]) (vs := [_]) Tryz.func10 rfl (by kernel_rfl) ⟨rfl, trivial⟩) rfl (Quiet.none (imText_q me (by omega))) ?_
              refine TA.pureG 31 rfl (by kernel_rfl) rfl rfl rfl (Yl.move rfl) rfl ?_
              refine TA.pureG 32 rfl (by kernel_rfl) rfl rfl rfl (Yl.move rfl) rfl ?_
              refine TA.quietG 33 rfl (by kernel_rfl) rfl rfl rfl (Cll.func (xs := [_, _, _, _, _, _, _]) (vs := [_, _, _, _, _, _, _]) Tryz.func9 rfl (by kernel_rfl) ⟨rfl, rfl, rfl, rfl, rfl, rfl, rfl, trivial⟩) rfl (Quiet.none (lvFast_q (sumH z) (sumH d) (imT me) z d (z.length + 1))) ?_
              refine TA.pure 34 rfl (by kernel_rfl) (Yl.pickT rfl rfl) rfl ?_
              refine TA.pure 35 rfl (by kernel_rfl) (Yl.assign rfl) rfl ?_
              refine TA.next (by kernel_rfl) ?_
              exact TC.back1 () rfl rfl (fun _ h => h.sub (by repeat (first | exact List.Sublist.refl _ | exact List.nil_sublist _ | exact List.sublist_append_right _ _ | refine List.Sublist.cons_cons _ ?_ | refine List.Sublist.append (List.Sublist.refl _) ?_ | refine List.Sublist.cons _ ?_ | refine List.Sublist.trans ?_ (List.sublist_append_right _ _))))
            · replace hc56 := of_decide_eq_false hc56
              refine TC.skip_next ?_
              refine TC.seq ?_
              refine TC.draws [] _ mixed (by kernel_rfl) rfl (fun _ h => h) ?_
              refine TA.load 0 rfl (by kernel_rfl) (Yl.loadA (vs := hashV (sumH z)) Tryz.underlying29 rfl sz29 rfl (by repeat (first | exact Foc.head | apply Foc.tail | apply Foc.right)) rfl) rfl ?_
              refine TA.load 1 rfl (by kernel_rfl) (Yl.loadA (vs := hashV (sumH d)) Tryz.underlying29 rfl sz29 rfl (by repeat (first | exact Foc.head | apply Foc.tail | apply Foc.right)) rfl) rfl ?_
              refine TA.pure 2 rfl (by kernel_rfl) (Yl.move rfl) rfl ?_
              refine TA.pure 3 rfl (by kernel_rfl) (Yl.move rfl) rfl ?_
              refine TA.quiet 4 rfl (by kernel_rfl) (Cll.func (xs := [_]) (vs := [_]) Tryz.func10 rfl (by kernel_rfl) ⟨rfl, trivial⟩) rfl (Quiet.none (imText_q me (by omega))) ?_
              refine TA.pure 5 rfl (by kernel_rfl) (Yl.move rfl) rfl ?_
              refine TA.pure 6 rfl (by kernel_rfl) (Yl.move rfl) rfl ?_
              refine TA.quiet 7 rfl (by kernel_rfl) (Cll.func (xs := [_, _, _, _, _, _, _]) (vs := [_, _, _, _, _, _, _]) Tryz.func9 rfl (by kernel_rfl) ⟨rfl, rfl, rfl, rfl, rfl, rfl, rfl, trivial⟩) rfl (fun g w ho => lvOk_q ea (imT me) es z d _ (1 + k * 8) (by omega) (by omega) ht hzr hok hzl g w (ho.sub (by repeat (first | exact List.Sublist.refl _ | exact List.nil_sublist _ | exact List.sublist_append_right _ _ | refine List.Sublist.cons_cons _ ?_ | refine List.Sublist.append (List.Sublist.refl _) ?_ | refine List.Sublist.cons _ ?_ | refine List.Sublist.trans ?_ (List.sublist_append_right _ _))))) ?_
              refine TA.pure 8 rfl (by kernel_rfl) (Yl.move rfl) rfl ?_
              refine TA.pure 9 rfl (by kernel_rfl) (Yl.rem (r := ((w % 4 : Nat) : Int)) rfl rfl (by omega) (by omega) (by omega)) rfl ?_
              refine TA.pure 10 rfl (by kernel_rfl) (Yl.eql rfl rfl (decide_eq_true (by omega))) rfl ?_
              refine TA.pure 11 rfl (by kernel_rfl) (Yl.eqlB Tryz.underlying4 rfl rfl) rfl ?_
              refine TA.pure 12 rfl (by kernel_rfl) (Yl.move rfl) rfl ?_
              refine TA.pureG 13 rfl (by kernel_rfl) rfl rfl rfl (Yl.move rfl) rfl ?_
              refine TA.quietG 14 rfl (by kernel_rfl) rfl rfl rfl (Cll.func (xs := [_]) (vs := [_]) Tryz.func8 rfl (by kernel_rfl) ⟨rfl, trivial⟩) rfl (Quiet.none (sum_q z (by omega))) ?_
              refine TA.pureG 15 rfl (by kernel_rfl) rfl rfl rfl (Yl.move rfl) rfl ?_
              refine TA.quietG 16 rfl (by kernel_rfl) rfl rfl rfl (Cll.func (xs := [_]) (vs := [_]) Tryz.func8 rfl (by kernel_rfl) ⟨rfl, trivial⟩) rfl (Quiet.none (sum_q d (by omega))) ?_
              refine TA.pureG 17 rfl (by kernel_rfl) rfl rfl rfl (Yl.move rfl) rfl ?_
              refine TA.pureG 18 rfl (by kernel_rfl) rfl rfl rfl (Yl.lenS Tryz.underlying9 rfl) rfl ?_
              refine TA.pureG 19 rfl (by kernel_rfl) rfl rfl rfl (Yl.move rfl) rfl ?_
              refine TA.quietG 20 rfl (by kernel_rfl) rfl rfl rfl (Cll.func (xs := [_]) (vs := [_]) Tryz.func10 rfl (by kernel_rfl) ⟨rfl, trivial⟩) rfl (Quiet.none (imText_q me (by omega))) ?_
              refine TA.pureG 21 rfl (by kernel_rfl) rfl rfl rfl (Yl.move rfl) rfl ?_
              refine TA.pureG 22 rfl (by kernel_rfl) rfl rfl rfl (Yl.move rfl) rfl ?_
              refine TA.quietG 23 rfl (by kernel_rfl) rfl rfl rfl (Cll.func (xs := [_, _, _, _, _, _, _]) (vs := [_, _, _, _, _, _, _]) Tryz.func9 rfl (by kernel_rfl) ⟨rfl, rfl, rfl, rfl, rfl, rfl, rfl, trivial⟩) rfl (fun g w ho => lvOk_q ea (imT me) es z d _ (1 + k * 8) (by omega) (by omega) ht hzr hok hzl g w (ho.sub (by repeat (first | exact List.Sublist.refl _ | exact List.nil_sublist _ | exact List.sublist_append_right _ _ | refine List.Sublist.cons_cons _ ?_ | refine List.Sublist.append (List.Sublist.refl _) ?_ | refine List.Sublist.cons _ ?_ | refine List.Sublist.trans ?_ (List.sublist_append_right _ _))))) ?_
              refine TA.pure 24 rfl (by kernel_rfl) (Yl.pickT rfl rfl) rfl ?_
              refine TA.pure 25 rfl (by kernel_rfl) (Yl.move rfl) rfl ?_
              refine TA.loadG 26 rfl (by kernel_rfl) rfl rfl rfl (Yl.loadA (vs := hashV (sumH z)) Tryz.underlying29 rfl sz29 rfl (by repeat (first | exact Foc.head | apply Foc.tail | apply Foc.right)) rfl) rfl ?_
              refine TA.loadG 27 rfl (by kernel_rfl) rfl rfl rfl (Yl.loadA (vs := hashV (sumH d)) Tryz.underlying29 rfl sz29 rfl (by repeat (first | exact Foc.head | apply Foc.tail | apply Foc.right)) rfl) rfl ?_
              refine TA.pureG 28 rfl (by kernel_rfl) rfl rfl rfl (Yl.move rfl) rfl ?_
              refine TA.pureG 29 rfl (by kernel_rfl) rfl rfl rfl (Yl.move rfl) rfl ?_
              refine TA.quietG 30 rfl (by kernel_rfl) rfl rfl rfl (Cll.func (xs := [_]) (vs := [_]) Tryz.func10 rfl (by kernel_rfl) ⟨rfl, trivial⟩) rfl (Quiet.none (imText_q me (by omega))) ?_
              refine TA.pureG 31 rfl (by kernel_rfl) rfl rfl rfl (Yl.move rfl) rfl ?_
              refine TA.pureG 32 rfl (by kernel_rfl) rfl rfl rfl (Yl.move rfl) rfl ?_
              refine TA.quietG 33 rfl (by kernel_rfl) rfl rfl rfl (Cll.func (xs := [_, _, _, _, _, _, _]) (vs := [_, _, _, _, _, _, _]) Tryz.func9 rfl (by kernel_rfl) ⟨rfl, rfl, rfl, rfl, rfl, rfl, rfl, trivial⟩) rfl (Quiet.none (lvFast_q (sumH z) (sumH d) (imT me) z d z.length)) ?_
              refine TA.pure 34 rfl (by kernel_rfl) (Yl.pickT rfl rfl) rfl ?_
              refine TA.pure 35 rfl (by kernel_rfl) (Yl.assign rfl) rfl ?_
              refine TA.next (by kernel_rfl) ?_
              exact TC.back1 () rfl rfl (fun _ h => h.sub (by repeat (first | exact List.Sublist.refl _ | exact List.nil_sublist _ | exact List.sublist_append_right _ _ | refine List.Sublist.cons_cons _ ?_ | refine List.Sublist.append (List.Sublist.refl _) ?_ | refine List.Sublist.cons _ ?_ | refine List.Sublist.trans ?_ (List.sublist_append_right _ _))))
      · refine TC.region ?_
        refine TL.val (Yl.move rfl) rfl ?_
        refine TL.val (Yl.move rfl) rfl ?_
        refine TL.val (Yl.move rfl) rfl ?_
        refine TL.val (Yl.addS rfl rfl (by show d.length + 1 ≤ _; omega)) rfl ?_
        refine TL.eff (Eff.lits1 [_, _, _] (vs := [vS d, vS z, vS (d ++ [120])]) Tryz.underlying37 sz9 zr9 rfl ⟨rfl, rfl, rfl, trivial⟩ rfl rfl rfl) rfl fun b35 => ?_
        refine TL.quiet (Cll.func (xs := [_]) (vs := [_]) Tryz.func7 rfl (by kernel_rfl) ⟨rfl, trivial⟩) rfl (fun g w ho => apart_q [d, z, d ++ [120]] 3 rfl (by omega) h3n (by intro y hy; simp only [List.mem_cons, List.not_mem_nil, or_false] at hy; rcases hy with rfl | rfl | rfl <;> omega) b35 g w (ho.sub (.cons_cons _ (List.nil_sublist _)))) ?_
        rw [decide_eq_false hnd]
        refine TL.val (Yl.not rfl) rfl ?_
        refine TL.next ?_
        refine TC.yes rfl ?_
        refine TC.seq ?_
        refine TC.region ?_
        refine TL.val (Yl.assign rfl) rfl ?_
        refine TL.next ?_
        exact TC.back1 () rfl rfl (fun _ h => h.sub (by repeat (first | exact List.Sublist.refl _ | exact List.nil_sublist _ | exact List.sublist_append_right _ _ | refine List.Sublist.cons_cons _ ?_ | refine List.Sublist.append (List.Sublist.refl _) ?_ | refine List.Sublist.cons _ ?_ | refine List.Sublist.trans ?_ (List.sublist_append_right _ _))))
end Go.Proofs.YtlhncphipfkkjaaGreatDoor
