/- The contracts of the entries that are drawn and of the program's own SHA-256 block; conditions: bounds on lengths, in each contract. -/
import Derived.Test.YtlhncphipfkkjaaGreatDoorW04
namespace Go.Proofs.YtlhncphipfkkjaaGreatDoor
open Go
theorem min8 (n : Nat) : (if (8 : Int) < (n : Int) then (8 : Int) else (n : Int)) = ((Nat.min n 8 : Nat) : Int) := by
  rcases Nat.le_total n 8 with h | h
  · rw [show Nat.min n 8 = n from Nat.min_eq_left h]; split <;> omega
  · rw [show Nat.min n 8 = 8 from Nat.min_eq_right h]; split <;> omega
theorem tarEntries_g {tE : TypeId} {fE : Nat × Nat} (ws : List UInt16) (n : Nat) (hn : ws.length = n) (hn2 : n ≤ 9223372036854775807) (b off cap : Nat) (cs : List Value) (hcap : n ≤ cap) (hcs : (cs.drop off).take n = ws.map u16V) (g : World) (Fr : HL) : Gives Tryz.prog 5 #[sl b off n cap] g ((b, .cells ⟨cs⟩ tE fE) :: Fr) { p : Value × HL // SlOf 35 6 (flatT (entL (ws.take (Nat.min n 8)))) p.1 p.2 } (fun p => p.1.1) (fun p => p.1.2 ++ ((b, .cells ⟨cs⟩ tE fE) :: Fr)) := by
  refine Gives.enter Tryz.func5 rfl Tryz.ntmps5 rfl ?_
  have hm8 : Nat.min n 8 ≤ 8 := Nat.min_le_right _ _
  have hmn : Nat.min n 8 ≤ n := Nat.min_le_left _ _
  have hadv : adv off cap 0 1 = off := by unfold adv; split <;> simp
  refine TC.seq ?_
  refine TC.region ?_
  refine TL.val (Yl.assign rfl) rfl ?_
  refine TL.next ?_
  refine TC.seq ?_
  refine TC.region ?_
  refine TL.eff (Eff.lits1 [_, _, _, _, _, _, _, _, _, _] (vs := namesL.map vS) Tryz.underlying37 sz9 zr9 rfl ⟨rfl, rfl, rfl, rfl, rfl, rfl, rfl, rfl, rfl, rfl, trivial⟩ rfl rfl rfl) rfl fun b14 => ?_
  refine TL.val (Yl.assign rfl) rfl ?_
  refine TL.next ?_
  refine TC.seq ?_
  refine TC.region ?_
  refine TL.val (Yl.assign rfl) rfl ?_
  refine TL.next ?_
  refine TC.seq ?_
  refine TC.seq ?_
  refine TC.region ?_
  refine TL.val (Yl.move rfl) rfl ?_
  refine TL.val (Yl.move rfl) rfl ?_
  refine TL.val (Yl.lenL Tryz.underlying22 rfl) rfl ?_
  refine TL.val (Yl.min2 (r := ((Nat.min n 8 : Nat) : Int)) rfl rfl (min8 n)) rfl ?_
  refine TL.val (Yl.slcH (j := Nat.min n 8) Tryz.underlying22 sz38 rfl rfl rfl (by omega)) rfl ?_
  rw [hadv]
  refine TL.val (Yl.lenL Tryz.underlying22 rfl) rfl ?_
  refine TL.val (Yl.move rfl) rfl ?_
  refine TL.next ?_
  refine TC.block ?_
  refine TC.loopI (σ := Nat × Value × HL) (fun p => [(3, sl b14 0 10 10), (19, sl b off (Nat.min n 8) cap), (20, .int .i64 ((Nat.min n 8 : Nat) : Int)), (4, p.2.1), (21, .int .i64 (p.1 : Int))]) (fun p => (b14, oC (namesL.map vS) 9) :: (b, .cells ⟨cs⟩ tE fE) :: (p.2.2 ++ Fr)) (fun p => p.1 ≤ Nat.min n 8 ∧ SlOf 35 6 (flatT (entL (ws.take p.1))) p.2.1 p.2.2) (fun p => Nat.min n 8 - p.1) (0, .slice none 0 0, []) ⟨rfl, rfl, rfl, rfl, rfl, trivial⟩ (fun _ h => h) ⟨Nat.zero_le _, SlOf.nil⟩ (fun p hp => ?_)
  obtain ⟨k, v, H1⟩ := p
  obtain ⟨hk, hv⟩ := hp
  dsimp only at hk hv ⊢
  refine TC.seq ?_
  refine TC.region ?_
  refine TL.val (Yl.lss rfl rfl rfl) rfl ?_
  refine TL.next ?_
  refine TC.seq ?_
  refine TC.cond rfl (fun hc22 => ?_) (fun hc22 => ?_)
  · replace hc22 := of_decide_eq_true hc22
    refine TC.skip_next ?_
    refine TC.seq ?_
    refine TC.block ?_
    refine TC.seq ?_
    obtain ⟨w, hw⟩ : ∃ w, ws[k]? = some w := ⟨ws[k]'(by omega), List.getElem?_eq_getElem (by omega)⟩
    have hw16 := w.toNat_lt
    have hnl := nameOf_length w
    have hel := entL_length (ws.take k)
    rw [List.length_take] at hel
    refine TC.region ?_
    refine TL.val (Yl.idxAddrS (j := k) (o := off + k) Tryz.underlying22 sz38 rfl rfl rfl (by omega) (by omega)) rfl ?_
    refine TL.val (Yl.load1 (v := .int .u16 (w.toNat : Int)) Tryz.underlying38 rfl rfl (by repeat (first | exact Foc.head | apply Foc.tail)) (by
      have := congrArg (fun z : List Value => z[k]?) hcs
      simp only [List.getElem?_take, List.getElem?_drop, List.getElem?_map, hw] at this
      rwa [if_pos (by omega)] at this)) rfl ?_
    refine TL.val (Yl.assign rfl) rfl ?_
    refine TL.next ?_
    refine TC.seq ?_
    refine TC.region ?_
    refine TL.val (Yl.move rfl) rfl ?_
    refine TL.val (Yl.move rfl) rfl ?_
    refine TL.val (Yl.rem (r := ((w.toNat % 10 : Nat) : Int)) rfl rfl (by omega) (by omega) (by omega)) rfl ?_
    refine TL.val (Yl.idxAddrS (j := w.toNat % 10) (o := w.toNat % 10) Tryz.underlying37 sz9 rfl rfl rfl (by omega) (by omega)) rfl ?_
    refine TL.val (Yl.load1 Tryz.underlying9 rfl rfl (by repeat (first | exact Foc.head | apply Foc.tail)) (nameOf_get w)) rfl ?_
    refine TL.val (Yl.build (ixs := [0, 3, 4]) (vs := [_, _, _]) (rs := [_, _, _, _, _, _]) [_, _, _] st35 rfl ⟨rfl, rfl, rfl, trivial⟩ rfl) rfl ?_
    refine TL.eff (Eff.alloc zr35 rfl) rfl fun b7 => ?_
    refine TL.skp (Skp.storeA (vs := TE.v ⟨nameOf w, [], [], 48, 420⟩) sz35 rfl rfl rfl (by repeat (first | exact Foc.head | apply Foc.tail)) (Nat.le_of_ble_eq_true rfl) rfl) ?_
    refine TL.next ?_
    refine TC.seq ?_
    refine TC.seq ?_
    refine TC.region ?_
    refine TL.val (Yl.move rfl) rfl ?_
    refine TL.val (Yl.shr16 (c := 4) rfl rfl) rfl ?_
    refine TL.val (Yl.rem (r := (((shr16 w 4).toNat % 6 : Nat) : Int)) rfl rfl (by omega) (by omega) (by omega)) rfl ?_
    refine TL.next ?_
    refine TC.block ?_
    refine TC.seq ?_
    refine TC.region ?_
    refine TL.val (Yl.eql rfl rfl rfl) rfl ?_
    refine TL.val (Yl.assign rfl) rfl ?_
    refine TL.next ?_
    refine TC.cond rfl (fun hc50 => ?_) (fun hc50 => ?_)
    · replace hc50 := of_decide_eq_true hc50
      have hE : entOf w = ⟨nameOf w, [], [], 53, 493⟩ := by unfold entOf; rw [if_pos (by omega)]
      refine TC.region ?_
      refine TL.val (Yl.fieldAddr (k := 5) (m := 3) (o := 3) Tryz.underlying35 rfl sz5 rfl rfl) rfl ?_
      refine TL.skp (Skp.store1 sz5 rfl rfl rfl (by repeat (first | exact Foc.head | apply Foc.tail)) (Nat.le_of_ble_eq_true rfl) rfl) ?_
      refine TL.val (Yl.fieldAddr (k := 3) (m := 4) (o := 4) Tryz.underlying35 rfl sz3 rfl rfl) rfl ?_
      refine TL.skp (Skp.store1 sz3 rfl rfl rfl (by repeat (first | exact Foc.head | apply Foc.tail)) (Nat.le_of_ble_eq_true rfl) rfl) ?_
      refine TL.next ?_
      refine TC.seq ?_
      refine TC.region ?_
      refine TL.val (Yl.assign rfl) rfl ?_
      refine TL.next ?_
      refine TC.seq ?_
      refine TC.seq ?_
      refine TC.region ?_
      refine TL.val (Yl.move rfl) rfl ?_
      refine TL.val (Yl.lenOf hv (flatT_length _) (by omega) Tryz.underlying24 rfl) rfl ?_
      refine TL.val (Yl.move rfl) rfl ?_
      refine TL.next ?_
      refine TC.block ?_
      refine TC.loopI (σ := Nat) (fun i => [(3, sl b14 0 10 10), (19, sl b off (Nat.min n 8) cap), (20, .int .i64 ((Nat.min n 8 : Nat) : Int)), (4, v), (21, .int .i64 (k : Int)), (6, .int .u16 (w.toNat : Int)), (7, pt b7 0), (11, .bool (dupN (entL (ws.take k)) (entOf w).name i)), (90, v), (91, .int .i64 ((entL (ws.take k)).length : Int)), (92, .int .i64 (i : Int))]) (fun i => (b7, oC (entOf w).v 35) :: (b14, oC (namesL.map vS) 9) :: (b, .cells ⟨cs⟩ tE fE) :: (H1 ++ Fr)) (fun i => i ≤ (entL (ws.take k)).length) (fun i => (entL (ws.take k)).length - i) 0 ⟨rfl, rfl, rfl, rfl, rfl, rfl, rfl, rfl, rfl, rfl, rfl, trivial⟩ (fun _ h => by rw [hE]; exact h) (Nat.zero_le _) (fun i hi => ?_)
      refine TC.seq ?_
      refine TC.region ?_
      refine TL.val (Yl.lss rfl rfl rfl) rfl ?_
      refine TL.next ?_
      refine TC.seq ?_
      refine TC.cond rfl (fun hc93 => ?_) (fun hc93 => ?_)
      · replace hc93 := of_decide_eq_true hc93
        refine TC.skip_next ?_
        refine TC.seq ?_
        refine TC.block ?_
        refine TC.seq ?_
        obtain ⟨x, hx⟩ : ∃ x, (entL (ws.take k))[i]? = some x := ⟨(entL (ws.take k))[i]'(by omega), List.getElem?_eq_getElem (by omega)⟩
        obtain ⟨bb, boff, bn, bcap, bcs, rfl, rfl, hb1, hb2, hb3⟩ : ∃ b off n cap cs, v = sl b off n cap ∧ H1 = [(b, oC cs 35)] ∧ n ≤ cap ∧ off + cap * 6 ≤ cs.length ∧ (cs.drop off).take (n * 6) = flatT (entL (ws.take k)) := by
          rcases hv with ⟨_, he, _⟩ | h
          · have := congrArg List.length he; rw [flatT_length, List.length_nil] at this; omega
          · exact h
        have hb4 : bn = (entL (ws.take k)).length := by
          have h1 := congrArg List.length hb3
          rw [flatT_length, List.length_take, List.length_drop] at h1
          have h2 : bn * 6 ≤ bcap * 6 := Nat.mul_le_mul_right _ hb1
          omega
        refine TC.region ?_
        refine TL.val (Yl.idxAddrS (j := i) (o := boff + i * 6) Tryz.underlying24 sz35 rfl rfl rfl (by omega) rfl) rfl ?_
        refine TL.val (Yl.loadA (vs := x.v) Tryz.underlying35 rfl sz35 rfl (by repeat (first | exact Foc.head | apply Foc.tail)) (by
          have := flatT_get _ i x hx
          rw [← hb3, List.drop_take, List.drop_drop, List.take_take] at this
          rw [Nat.mul_comm i 6]
          rw [Nat.min_eq_left (by omega)] at this
          exact this)) rfl ?_
        refine TL.eff (Eff.alloc zr35 rfl) rfl fun b13 => ?_
        refine TL.skp (Skp.storeA (vs := x.v) sz35 rfl rfl rfl (by repeat (first | exact Foc.head | apply Foc.tail)) (Nat.le_of_ble_eq_true rfl) rfl) ?_
        refine TL.next ?_
        by_cases hdup : dupN (entL (ws.take k)) (entOf w).name i = true
        · rw [hdup]
          refine TC.region ?_
          refine TL.val (Yl.move rfl) rfl ?_
          refine TL.val (Yl.move rfl) rfl ?_
          refine TL.no rfl rfl rfl rfl rfl ?_
          refine TL.no rfl rfl rfl rfl rfl ?_
          refine TL.no rfl rfl rfl rfl rfl ?_
          refine TL.no rfl rfl rfl rfl rfl ?_
          refine TL.no rfl rfl rfl rfl rfl ?_
          refine TL.val (Yl.pickT rfl rfl) rfl ?_
          refine TL.val (Yl.assign rfl) rfl ?_
          refine TL.next ?_
          refine TC.region ?_
          refine TL.val (Yl.add rfl rfl (wI (by omega))) rfl ?_
          refine TL.val (Yl.move rfl) rfl ?_
          exact TL.done (Inv.again (i + 1) (by omega) (by omega) ⟨rfl, rfl, rfl, rfl, rfl, rfl, rfl, (by rw [dupN_succ hx, hdup]; rfl), rfl, rfl, rfl, trivial⟩ (fun _ h => h.sub (by repeat (first | exact List.Sublist.refl _ | refine List.Sublist.cons_cons _ ?_ | refine List.Sublist.cons _ ?_))))
        · replace hdup := Bool.eq_false_iff.2 hdup
          rw [hdup]
          refine TC.region ?_
          refine TL.val (Yl.move rfl) rfl ?_
          refine TL.val (Yl.move rfl) rfl ?_
          refine TL.yes rfl rfl rfl ?_
          refine TL.val (Yl.fieldAddr (k := 9) (m := 0) (o := 0) Tryz.underlying35 rfl sz9 rfl rfl) rfl ?_
          refine TL.yes rfl rfl rfl ?_
          refine TL.val (Yl.load1 Tryz.underlying9 rfl rfl (by repeat (first | exact Foc.head | apply Foc.tail)) rfl) rfl ?_
          refine TL.yes rfl rfl rfl ?_
          refine TL.val (Yl.fieldAddr (k := 9) (m := 0) (o := 0) Tryz.underlying35 rfl sz9 rfl rfl) rfl ?_
          refine TL.yes rfl rfl rfl ?_
          refine TL.val (Yl.load1 Tryz.underlying9 rfl rfl (by repeat (first | exact Foc.head | apply Foc.tail)) rfl) rfl ?_
          refine TL.yes rfl rfl rfl ?_
          refine TL.val (Yl.eqlS rfl rfl rfl) rfl ?_
          refine TL.val (Yl.pickF rfl rfl) rfl ?_
          refine TL.val (Yl.assign rfl) rfl ?_
          refine TL.next ?_
          refine TC.region ?_
          refine TL.val (Yl.add rfl rfl (wI (by omega))) rfl ?_
          refine TL.val (Yl.move rfl) rfl ?_
          exact TL.done (Inv.again (i + 1) (by omega) (by omega) ⟨rfl, rfl, rfl, rfl, rfl, rfl, rfl, (by rw [dupN_succ hx, hdup]; rfl), rfl, rfl, rfl, trivial⟩ (fun _ h => h.sub (by repeat (first | exact List.Sublist.refl _ | refine List.Sublist.cons_cons _ ?_ | refine List.Sublist.cons _ ?_))))
      · replace hc93 := of_decide_eq_false hc93
        refine TC.exit_next rfl ?_
        refine TC.seq ?_
        obtain rfl : i = (entL (ws.take k)).length := by omega
        by_cases hall : dupN (entL (ws.take k)) (entOf w).name (entL (ws.take k)).length = true
        · rw [hall]
          refine TC.region ?_
          refine TL.val (Yl.move rfl) rfl ?_
          refine TL.val (Yl.not rfl) rfl ?_
          refine TL.next ?_
          refine TC.no rfl ?_
          refine TC.skip_next ?_
          refine TC.region ?_
          refine TL.val (Yl.add rfl rfl (wI (by omega))) rfl ?_
          refine TL.val (Yl.move rfl) rfl ?_
          exact TL.done (Inv.again (k + 1, v, H1) ⟨by show k + 1 ≤ _; omega, by show SlOf 35 6 (flatT (entL (ws.take (k + 1)))) v H1; rw [entL_snoc hw, entStep, if_pos hall]; exact hv⟩ (show Nat.min n 8 - (k + 1) < Nat.min n 8 - k by omega) ⟨rfl, rfl, rfl, rfl, rfl, trivial⟩ (fun _ h => h.sub (by repeat (first | exact List.Sublist.refl _ | refine List.Sublist.cons_cons _ ?_ | refine List.Sublist.cons _ ?_))))
        · replace hall := Bool.eq_false_iff.2 hall
          rw [hall]
          refine TC.region ?_
          refine TL.val (Yl.move rfl) rfl ?_
          refine TL.val (Yl.not rfl) rfl ?_
          refine TL.next ?_
          refine TC.yes rfl ?_
          refine TC.region ?_
          refine TL.val (Yl.move rfl) rfl ?_
          refine TL.val (Yl.loadA (vs := (entOf w).v) Tryz.underlying35 rfl sz35 rfl (by repeat (first | exact Foc.head | apply Foc.tail)) rfl) rfl ?_
          refine TL.eff (Eff.lits [_] (vs := [.agg ⟨(entOf w).v⟩]) (cs := (entOf w).v) Tryz.underlying24 sz35 zr35 rfl ⟨rfl, trivial⟩ rfl (by simp; rfl) (by simp [Value.cells]) rfl) rfl fun b109 => ?_
          refine TL.eff (Eff.app (sz := 6) (bs := 72) (m := 1) (news := (entOf w).v) (R := [(b14, oC (namesL.map vS) 9), (b, .cells ⟨cs⟩ tE fE)] ++ Fr) Tryz.underlying24 Tryz.underlying24 (.inl ⟨_, rfl⟩) sz35 by35 zr35 rfl rfl rfl hv (fun _ h => Own.mid (A := [(b14, oC (namesL.map vS) 9), (b, .cells ⟨cs⟩ tE fE)]) (h.sub (.cons _ (.cons _ (.refl _))))) (Src.sl .head rfl) rfl (by intro y hy; simp [TE.v] at hy; rcases hy with rfl | rfl | rfl | rfl | rfl | rfl <;> rfl) (by decide) (by decide) (by rw [flatT_length]; show (_ + 6) * 72 ≤ _; omega)) rfl fun p => ?_
          refine TL.val (Yl.assign rfl) rfl ?_
          refine TL.next ?_
          refine TC.region ?_
          refine TL.val (Yl.add rfl rfl (wI (by omega))) rfl ?_
          refine TL.val (Yl.move rfl) rfl ?_
          exact TL.done (Inv.again (k + 1, p.1.1, p.1.2) ⟨by show k + 1 ≤ _; omega, by show SlOf 35 6 (flatT (entL (ws.take (k + 1)))) p.1.1 p.1.2; rw [entL_snoc hw, entStep, hall, if_neg (by decide), flatT_append, flatT_one]; exact p.2⟩ (show Nat.min n 8 - (k + 1) < Nat.min n 8 - k by omega) ⟨rfl, rfl, rfl, rfl, rfl, trivial⟩ (fun _ h => Own.mid (A := p.1.2) (H1 := [(b14, _), (b, _)]) h))
    · replace hc50 := of_decide_eq_false hc50
      refine TC.seq ?_
      refine TC.region ?_
      refine TL.val (Yl.eql rfl rfl rfl) rfl ?_
      refine TL.val (Yl.assign rfl) rfl ?_
      refine TL.next ?_
      refine TC.cond rfl (fun hc54 => ?_) (fun hc54 => ?_)
      · replace hc54 := of_decide_eq_true hc54
        refine TC.seq ?_
        have hE : entOf w = ⟨whName (nameOf w), [], [], 48, 420⟩ := by unfold entOf; rw [if_neg (by omega), if_pos (by omega)]
        refine TC.draws [] _ mixed (by kernel_rfl) rfl (fun _ h => h) ?_
        refine TA.pure 0 rfl (by kernel_rfl) (Yl.fieldAddr (k := 9) (m := 0) (o := 0) Tryz.underlying35 rfl sz9 rfl rfl) rfl ?_
        refine TA.load 1 rfl (by kernel_rfl) (Yl.load1 (v := vS (nameOf w)) Tryz.underlying9 rfl rfl (by repeat (first | exact Foc.head | apply Foc.tail)) rfl) rfl ?_
        refine TA.pure 2 rfl (by kernel_rfl) (Yl.assign rfl) rfl ?_
        refine TA.pure 3 rfl (by kernel_rfl) (Yl.assign rfl) rfl ?_
        refine TA.next (by kernel_rfl) ?_
        refine TC.seq ?_
        refine TC.seq ?_
        refine TC.region ?_
        refine TL.val (Yl.fieldAddr (k := 9) (m := 0) (o := 0) Tryz.underlying35 rfl sz9 rfl rfl) rfl ?_
        refine TL.val (Yl.load1 (v := vS (nameOf w)) Tryz.underlying9 rfl rfl (by repeat (first | exact Foc.head | apply Foc.tail)) rfl) rfl ?_
        refine TL.val (Yl.lenS Tryz.underlying9 rfl) rfl ?_
        refine TL.val (Yl.move rfl) rfl ?_
        refine TL.next ?_
        refine TC.block ?_
        refine TC.loopI (σ := Nat) (fun i => [(3, sl b14 0 10 10), (19, sl b off (Nat.min n 8) cap), (20, .int .i64 ((Nat.min n 8 : Nat) : Int)), (4, v), (21, .int .i64 (k : Int)), (6, .int .u16 (w.toNat : Int)), (7, pt b7 0), (8, vS (splitAt (nameOf w) i).1), (9, vS (splitAt (nameOf w) i).2), (60, .int .i64 ((nameOf w).length : Int)), (61, .int .i64 (i : Int))]) (fun i => (b7, oC (TE.v ⟨nameOf w, [], [], 48, 420⟩) 35) :: (b14, oC (namesL.map vS) 9) :: (b, .cells ⟨cs⟩ tE fE) :: (H1 ++ Fr)) (fun i => i ≤ (nameOf w).length) (fun i => (nameOf w).length - i) 0 ⟨rfl, rfl, rfl, rfl, rfl, rfl, rfl, rfl, rfl, rfl, rfl, trivial⟩ (fun _ h => h) (Nat.zero_le _) (fun i hi => ?_)
        refine TC.seq ?_
        refine TC.region ?_
        refine TL.val (Yl.lss rfl rfl rfl) rfl ?_
        refine TL.next ?_
        refine TC.seq ?_
        refine TC.cond rfl (fun hc62 => ?_) (fun hc62 => ?_)
        · replace hc62 := of_decide_eq_true hc62
          refine TC.skip_next ?_
          refine TC.seq ?_
          refine TC.block ?_
          refine TC.seq ?_
          refine TC.region ?_
          refine TL.val (Yl.move rfl) rfl ?_
          refine TL.val (Yl.assign rfl) rfl ?_
          refine TL.next ?_
          refine TC.seq ?_
          by_cases h47 : byteAt (nameOf w) i = 47
          · refine TC.region ?_
            refine TL.val (Yl.fieldAddr (k := 9) (m := 0) (o := 0) Tryz.underlying35 rfl sz9 rfl rfl) rfl ?_
            refine TL.val (Yl.load1 (v := vS (nameOf w)) Tryz.underlying9 rfl rfl (by repeat (first | exact Foc.head | apply Foc.tail)) rfl) rfl ?_
            refine TL.val (Yl.move rfl) rfl ?_
            refine TL.val (Yl.idxS (j := i) Tryz.underlying9 rfl rfl rfl (byteAt_get (by omega))) rfl ?_
            refine TL.val (Yl.eql rfl rfl (decide_eq_true (by rw [h47]; rfl))) rfl ?_
            refine TL.next ?_
            refine TC.yes rfl ?_
            refine TC.draws [] _ mixed (by kernel_rfl) rfl (fun _ h => h) ?_
            refine TA.pure 0 rfl (by kernel_rfl) (Yl.fieldAddr (k := 9) (m := 0) (o := 0) Tryz.underlying35 rfl sz9 rfl rfl) rfl ?_
            refine TA.load 1 rfl (by kernel_rfl) (Yl.load1 (v := vS (nameOf w)) Tryz.underlying9 rfl rfl (by repeat (first | exact Foc.head | apply Foc.tail)) rfl) rfl ?_
            refine TA.pure 2 rfl (by kernel_rfl) (Yl.move rfl) rfl ?_
            refine TA.pure 3 rfl (by kernel_rfl) (Yl.add rfl rfl (wI (by omega))) rfl ?_
            refine TA.pure 4 rfl (by kernel_rfl) (Yl.sliceSH (j := i + 1) Tryz.underlying9 rfl rfl rfl (by omega)) rfl ?_
            refine TA.pure 5 rfl (by kernel_rfl) (Yl.fieldAddr (k := 9) (m := 0) (o := 0) Tryz.underlying35 rfl sz9 rfl rfl) rfl ?_
            refine TA.load 6 rfl (by kernel_rfl) (Yl.load1 (v := vS (nameOf w)) Tryz.underlying9 rfl rfl (by repeat (first | exact Foc.head | apply Foc.tail)) rfl) rfl ?_
            refine TA.pure 7 rfl (by kernel_rfl) (Yl.move rfl) rfl ?_
            refine TA.pure 8 rfl (by kernel_rfl) (Yl.add rfl rfl (wI (by omega))) rfl ?_
            refine TA.pure 9 rfl (by kernel_rfl) (Yl.sliceSL (j := i + 1) Tryz.underlying9 rfl rfl rfl (by omega)) rfl ?_
            refine TA.pure 10 rfl (by kernel_rfl) (Yl.assign rfl) rfl ?_
            refine TA.pure 11 rfl (by kernel_rfl) (Yl.assign rfl) rfl ?_
            refine TA.next (by kernel_rfl) ?_
            refine TC.region ?_
            refine TL.val (Yl.add rfl rfl (wI (by omega))) rfl ?_
            refine TL.val (Yl.move rfl) rfl ?_
            exact TL.done (Inv.again (i + 1) (by omega) (by omega) ⟨rfl, rfl, rfl, rfl, rfl, rfl, rfl, (by rw [splitAt_yes h47]; rfl), (by rw [splitAt_yes h47]; rfl), rfl, rfl, trivial⟩ (fun _ h => h))
          · refine TC.region ?_
            refine TL.val (Yl.fieldAddr (k := 9) (m := 0) (o := 0) Tryz.underlying35 rfl sz9 rfl rfl) rfl ?_
            refine TL.val (Yl.load1 (v := vS (nameOf w)) Tryz.underlying9 rfl rfl (by repeat (first | exact Foc.head | apply Foc.tail)) rfl) rfl ?_
            refine TL.val (Yl.move rfl) rfl ?_
            refine TL.val (Yl.idxS (j := i) Tryz.underlying9 rfl rfl rfl (byteAt_get (by omega))) rfl ?_
            refine TL.val (Yl.eql rfl rfl (decide_eq_false (fun e => h47 (UInt8.toNat_inj.1 (Int.ofNat_inj.1 e))))) rfl ?_
            refine TL.next ?_
            refine TC.no rfl ?_
            refine TC.skip_next ?_
            refine TC.region ?_
            refine TL.val (Yl.add rfl rfl (wI (by omega))) rfl ?_
            refine TL.val (Yl.move rfl) rfl ?_
            exact TL.done (Inv.again (i + 1) (by omega) (by omega) ⟨rfl, rfl, rfl, rfl, rfl, rfl, rfl, (by rw [splitAt_no h47]; rfl), (by rw [splitAt_no h47]; rfl), rfl, rfl, trivial⟩ (fun _ h => h))
        · replace hc62 := of_decide_eq_false hc62
          refine TC.exit_next rfl ?_
          obtain rfl : i = (nameOf w).length := by omega
          have hsp := congrArg List.length (splitAt_app (nameOf w) (nameOf w).length)
          rw [List.length_append] at hsp
          refine TC.region ?_
          refine TL.val (Yl.move rfl) rfl ?_
          refine TL.val (Yl.addS (b := whB) rfl rfl (by show _ + 4 ≤ _; omega)) rfl ?_
          refine TL.val (Yl.move rfl) rfl ?_
          refine TL.val (Yl.addS rfl rfl (by rw [List.length_append]; show _ + 4 + _ ≤ _; omega)) rfl ?_
          refine TL.val (Yl.fieldAddr (k := 9) (m := 0) (o := 0) Tryz.underlying35 rfl sz9 rfl rfl) rfl ?_
          refine TL.skp (Skp.store1 sz9 rfl rfl rfl (by repeat (first | exact Foc.head | apply Foc.tail)) (Nat.le_of_ble_eq_true rfl) rfl) ?_
          refine TL.next ?_
          refine TC.seq ?_
          refine TC.region ?_
          refine TL.val (Yl.assign rfl) rfl ?_
          refine TL.next ?_
          refine TC.seq ?_
          refine TC.seq ?_
          refine TC.region ?_
          refine TL.val (Yl.move rfl) rfl ?_
          refine TL.val (Yl.lenOf hv (flatT_length _) (by omega) Tryz.underlying24 rfl) rfl ?_
          refine TL.val (Yl.move rfl) rfl ?_
          refine TL.next ?_
          refine TC.block ?_
          refine TC.loopI (σ := Nat) (fun i => [(3, sl b14 0 10 10), (19, sl b off (Nat.min n 8) cap), (20, .int .i64 ((Nat.min n 8 : Nat) : Int)), (4, v), (21, .int .i64 (k : Int)), (6, .int .u16 (w.toNat : Int)), (7, pt b7 0), (11, .bool (dupN (entL (ws.take k)) (entOf w).name i)), (90, v), (91, .int .i64 ((entL (ws.take k)).length : Int)), (92, .int .i64 (i : Int))]) (fun i => (b7, oC (entOf w).v 35) :: (b14, oC (namesL.map vS) 9) :: (b, .cells ⟨cs⟩ tE fE) :: (H1 ++ Fr)) (fun i => i ≤ (entL (ws.take k)).length) (fun i => (entL (ws.take k)).length - i) 0 ⟨rfl, rfl, rfl, rfl, rfl, rfl, rfl, rfl, rfl, rfl, rfl, trivial⟩ (fun _ h => by rw [hE]; exact h) (Nat.zero_le _) (fun i hi => ?_)
          refine TC.seq ?_
          refine TC.region ?_
          refine TL.val (Yl.lss rfl rfl rfl) rfl ?_
          refine TL.next ?_
          refine TC.seq ?_
          refine TC.cond rfl (fun hc93 => ?_) (fun hc93 => ?_)
          · replace hc93 := of_decide_eq_true hc93
            refine TC.skip_next ?_
            refine TC.seq ?_
            refine TC.block ?_
            refine TC.seq ?_
            obtain ⟨x, hx⟩ : ∃ x, (entL (ws.take k))[i]? = some x := ⟨(entL (ws.take k))[i]'(by omega), List.getElem?_eq_getElem (by omega)⟩
            obtain ⟨bb, boff, bn, bcap, bcs, rfl, rfl, hb1, hb2, hb3⟩ : ∃ b off n cap cs, v = sl b off n cap ∧ H1 = [(b, oC cs 35)] ∧ n ≤ cap ∧ off + cap * 6 ≤ cs.length ∧ (cs.drop off).take (n * 6) = flatT (entL (ws.take k)) := by
              rcases hv with ⟨_, he, _⟩ | h
              · have := congrArg List.length he; rw [flatT_length, List.length_nil] at this; omega
              · exact h
            have hb4 : bn = (entL (ws.take k)).length := by
              have h1 := congrArg List.length hb3
              rw [flatT_length, List.length_take, List.length_drop] at h1
              have h2 : bn * 6 ≤ bcap * 6 := Nat.mul_le_mul_right _ hb1
              omega
            refine TC.region ?_
            refine TL.val (Yl.idxAddrS (j := i) (o := boff + i * 6) Tryz.underlying24 sz35 rfl rfl rfl (by omega) rfl) rfl ?_
            refine TL.val (Yl.loadA (vs := x.v) Tryz.underlying35 rfl sz35 rfl (by repeat (first | exact Foc.head | apply Foc.tail)) (by
              have := flatT_get _ i x hx
              rw [← hb3, List.drop_take, List.drop_drop, List.take_take] at this
              rw [Nat.mul_comm i 6]
              rw [Nat.min_eq_left (by omega)] at this
              exact this)) rfl ?_
            refine TL.eff (Eff.alloc zr35 rfl) rfl fun b13 => ?_
            refine TL.skp (Skp.storeA (vs := x.v) sz35 rfl rfl rfl (by repeat (first | exact Foc.head | apply Foc.tail)) (Nat.le_of_ble_eq_true rfl) rfl) ?_
            refine TL.next ?_
            by_cases hdup : dupN (entL (ws.take k)) (entOf w).name i = true
            · rw [hdup]
              refine TC.region ?_
              refine TL.val (Yl.move rfl) rfl ?_
              refine TL.val (Yl.move rfl) rfl ?_
              refine TL.no rfl rfl rfl rfl rfl ?_
              refine TL.no rfl rfl rfl rfl rfl ?_
              refine TL.no rfl rfl rfl rfl rfl ?_
              refine TL.no rfl rfl rfl rfl rfl ?_
              refine TL.no rfl rfl rfl rfl rfl ?_
              refine TL.val (Yl.pickT rfl rfl) rfl ?_
              refine TL.val (Yl.assign rfl) rfl ?_
              refine TL.next ?_
              refine TC.region ?_
              refine TL.val (Yl.add rfl rfl (wI (by omega))) rfl ?_
              refine TL.val (Yl.move rfl) rfl ?_
              exact TL.done (Inv.again (i + 1) (by omega) (by omega) ⟨rfl, rfl, rfl, rfl, rfl, rfl, rfl, (by rw [dupN_succ hx, hdup]; rfl), rfl, rfl, rfl, trivial⟩ (fun _ h => h.sub (by repeat (first | exact List.Sublist.refl _ | refine List.Sublist.cons_cons _ ?_ | refine List.Sublist.cons _ ?_))))
            · replace hdup := Bool.eq_false_iff.2 hdup
              rw [hdup]
              refine TC.region ?_
              refine TL.val (Yl.move rfl) rfl ?_
              refine TL.val (Yl.move rfl) rfl ?_
              refine TL.yes rfl rfl rfl ?_
              refine TL.val (Yl.fieldAddr (k := 9) (m := 0) (o := 0) Tryz.underlying35 rfl sz9 rfl rfl) rfl ?_
              refine TL.yes rfl rfl rfl ?_
              refine TL.val (Yl.load1 Tryz.underlying9 rfl rfl (by repeat (first | exact Foc.head | apply Foc.tail)) rfl) rfl ?_
              refine TL.yes rfl rfl rfl ?_
              refine TL.val (Yl.fieldAddr (k := 9) (m := 0) (o := 0) Tryz.underlying35 rfl sz9 rfl rfl) rfl ?_
              refine TL.yes rfl rfl rfl ?_
              refine TL.val (Yl.load1 Tryz.underlying9 rfl rfl (by repeat (first | exact Foc.head | apply Foc.tail)) rfl) rfl ?_
              refine TL.yes rfl rfl rfl ?_
              refine TL.val (Yl.eqlS rfl rfl rfl) rfl ?_
              refine TL.val (Yl.pickF rfl rfl) rfl ?_
              refine TL.val (Yl.assign rfl) rfl ?_
              refine TL.next ?_
              refine TC.region ?_
              refine TL.val (Yl.add rfl rfl (wI (by omega))) rfl ?_
              refine TL.val (Yl.move rfl) rfl ?_
              exact TL.done (Inv.again (i + 1) (by omega) (by omega) ⟨rfl, rfl, rfl, rfl, rfl, rfl, rfl, (by rw [dupN_succ hx, hdup]; rfl), rfl, rfl, rfl, trivial⟩ (fun _ h => h.sub (by repeat (first | exact List.Sublist.refl _ | refine List.Sublist.cons_cons _ ?_ | refine List.Sublist.cons _ ?_))))
          · replace hc93 := of_decide_eq_false hc93
            refine TC.exit_next rfl ?_
            refine TC.seq ?_
            obtain rfl : i = (entL (ws.take k)).length := by omega
            by_cases hall : dupN (entL (ws.take k)) (entOf w).name (entL (ws.take k)).length = true
            · rw [hall]
              refine TC.region ?_
              refine TL.val (Yl.move rfl) rfl ?_
              refine TL.val (Yl.not rfl) rfl ?_
              refine TL.next ?_
              refine TC.no rfl ?_
              refine TC.skip_next ?_
              refine TC.region ?_
              refine TL.val (Yl.add rfl rfl (wI (by omega))) rfl ?_
              refine TL.val (Yl.move rfl) rfl ?_
              exact TL.done (Inv.again (k + 1, v, H1) ⟨by show k + 1 ≤ _; omega, by show SlOf 35 6 (flatT (entL (ws.take (k + 1)))) v H1; rw [entL_snoc hw, entStep, if_pos hall]; exact hv⟩ (show Nat.min n 8 - (k + 1) < Nat.min n 8 - k by omega) ⟨rfl, rfl, rfl, rfl, rfl, trivial⟩ (fun _ h => h.sub (by repeat (first | exact List.Sublist.refl _ | refine List.Sublist.cons_cons _ ?_ | refine List.Sublist.cons _ ?_))))
            · replace hall := Bool.eq_false_iff.2 hall
              rw [hall]
              refine TC.region ?_
              refine TL.val (Yl.move rfl) rfl ?_
              refine TL.val (Yl.not rfl) rfl ?_
              refine TL.next ?_
              refine TC.yes rfl ?_
              refine TC.region ?_
              refine TL.val (Yl.move rfl) rfl ?_
              refine TL.val (Yl.loadA (vs := (entOf w).v) Tryz.underlying35 rfl sz35 rfl (by repeat (first | exact Foc.head | apply Foc.tail)) rfl) rfl ?_
              refine TL.eff (Eff.lits [_] (vs := [.agg ⟨(entOf w).v⟩]) (cs := (entOf w).v) Tryz.underlying24 sz35 zr35 rfl ⟨rfl, trivial⟩ rfl (by simp; rfl) (by simp [Value.cells]) rfl) rfl fun b109 => ?_
              refine TL.eff (Eff.app (sz := 6) (bs := 72) (m := 1) (news := (entOf w).v) (R := [(b14, oC (namesL.map vS) 9), (b, .cells ⟨cs⟩ tE fE)] ++ Fr) Tryz.underlying24 Tryz.underlying24 (.inl ⟨_, rfl⟩) sz35 by35 zr35 rfl rfl rfl hv (fun _ h => Own.mid (A := [(b14, oC (namesL.map vS) 9), (b, .cells ⟨cs⟩ tE fE)]) (h.sub (.cons _ (.cons _ (.refl _))))) (Src.sl .head rfl) rfl (by intro y hy; simp [TE.v] at hy; rcases hy with rfl | rfl | rfl | rfl | rfl | rfl <;> rfl) (by decide) (by decide) (by rw [flatT_length]; show (_ + 6) * 72 ≤ _; omega)) rfl fun p => ?_
              refine TL.val (Yl.assign rfl) rfl ?_
              refine TL.next ?_
              refine TC.region ?_
              refine TL.val (Yl.add rfl rfl (wI (by omega))) rfl ?_
              refine TL.val (Yl.move rfl) rfl ?_
              exact TL.done (Inv.again (k + 1, p.1.1, p.1.2) ⟨by show k + 1 ≤ _; omega, by show SlOf 35 6 (flatT (entL (ws.take (k + 1)))) p.1.1 p.1.2; rw [entL_snoc hw, entStep, hall, if_neg (by decide), flatT_append, flatT_one]; exact p.2⟩ (show Nat.min n 8 - (k + 1) < Nat.min n 8 - k by omega) ⟨rfl, rfl, rfl, rfl, rfl, trivial⟩ (fun _ h => Own.mid (A := p.1.2) (H1 := [(b14, _), (b, _)]) h))
      · replace hc54 := of_decide_eq_false hc54
        refine TC.seq ?_
        refine TC.region ?_
        refine TL.val (Yl.eql rfl rfl rfl) rfl ?_
        refine TL.val (Yl.assign rfl) rfl ?_
        refine TL.next ?_
        refine TC.cond rfl (fun hc85 => ?_) (fun hc85 => ?_)
        · replace hc85 := of_decide_eq_true hc85
          have hE : entOf w = ⟨nameOf w, targetB, [], 50, 511⟩ := by unfold entOf; rw [if_neg (by omega), if_neg (by omega), if_pos (by omega)]
          refine TC.region ?_
          refine TL.val (Yl.fieldAddr (k := 5) (m := 3) (o := 3) Tryz.underlying35 rfl sz5 rfl rfl) rfl ?_
          refine TL.skp (Skp.store1 sz5 rfl rfl rfl (by repeat (first | exact Foc.head | apply Foc.tail)) (Nat.le_of_ble_eq_true rfl) rfl) ?_
          refine TL.val (Yl.fieldAddr (k := 9) (m := 1) (o := 1) Tryz.underlying35 rfl sz9 rfl rfl) rfl ?_
          refine TL.skp (Skp.store1 sz9 rfl rfl rfl (by repeat (first | exact Foc.head | apply Foc.tail)) (Nat.le_of_ble_eq_true rfl) rfl) ?_
          refine TL.val (Yl.fieldAddr (k := 3) (m := 4) (o := 4) Tryz.underlying35 rfl sz3 rfl rfl) rfl ?_
          refine TL.skp (Skp.store1 sz3 rfl rfl rfl (by repeat (first | exact Foc.head | apply Foc.tail)) (Nat.le_of_ble_eq_true rfl) rfl) ?_
          refine TL.next ?_
          refine TC.seq ?_
          refine TC.region ?_
          refine TL.val (Yl.assign rfl) rfl ?_
          refine TL.next ?_
          refine TC.seq ?_
          refine TC.seq ?_
          refine TC.region ?_
          refine TL.val (Yl.move rfl) rfl ?_
          refine TL.val (Yl.lenOf hv (flatT_length _) (by omega) Tryz.underlying24 rfl) rfl ?_
          refine TL.val (Yl.move rfl) rfl ?_
          refine TL.next ?_
          refine TC.block ?_
          refine TC.loopI (σ := Nat) (fun i => [(3, sl b14 0 10 10), (19, sl b off (Nat.min n 8) cap), (20, .int .i64 ((Nat.min n 8 : Nat) : Int)), (4, v), (21, .int .i64 (k : Int)), (6, .int .u16 (w.toNat : Int)), (7, pt b7 0), (11, .bool (dupN (entL (ws.take k)) (entOf w).name i)), (90, v), (91, .int .i64 ((entL (ws.take k)).length : Int)), (92, .int .i64 (i : Int))]) (fun i => (b7, oC (entOf w).v 35) :: (b14, oC (namesL.map vS) 9) :: (b, .cells ⟨cs⟩ tE fE) :: (H1 ++ Fr)) (fun i => i ≤ (entL (ws.take k)).length) (fun i => (entL (ws.take k)).length - i) 0 ⟨rfl, rfl, rfl, rfl, rfl, rfl, rfl, rfl, rfl, rfl, rfl, trivial⟩ (fun _ h => by rw [hE]; exact h) (Nat.zero_le _) (fun i hi => ?_)
          refine TC.seq ?_
          refine TC.region ?_
          refine TL.val (Yl.lss rfl rfl rfl) rfl ?_
          refine TL.next ?_
          refine TC.seq ?_
          refine TC.cond rfl (fun hc93 => ?_) (fun hc93 => ?_)
          · replace hc93 := of_decide_eq_true hc93
            refine TC.skip_next ?_
            refine TC.seq ?_
            refine TC.block ?_
            refine TC.seq ?_
            obtain ⟨x, hx⟩ : ∃ x, (entL (ws.take k))[i]? = some x := ⟨(entL (ws.take k))[i]'(by omega), List.getElem?_eq_getElem (by omega)⟩
            obtain ⟨bb, boff, bn, bcap, bcs, rfl, rfl, hb1, hb2, hb3⟩ : ∃ b off n cap cs, v = sl b off n cap ∧ H1 = [(b, oC cs 35)] ∧ n ≤ cap ∧ off + cap * 6 ≤ cs.length ∧ (cs.drop off).take (n * 6) = flatT (entL (ws.take k)) := by
              rcases hv with ⟨_, he, _⟩ | h
              · have := congrArg List.length he; rw [flatT_length, List.length_nil] at this; omega
              · exact h
            have hb4 : bn = (entL (ws.take k)).length := by
              have h1 := congrArg List.length hb3
              rw [flatT_length, List.length_take, List.length_drop] at h1
              have h2 : bn * 6 ≤ bcap * 6 := Nat.mul_le_mul_right _ hb1
              omega
            refine TC.region ?_
            refine TL.val (Yl.idxAddrS (j := i) (o := boff + i * 6) Tryz.underlying24 sz35 rfl rfl rfl (by omega) rfl) rfl ?_
            refine TL.val (Yl.loadA (vs := x.v) Tryz.underlying35 rfl sz35 rfl (by repeat (first | exact Foc.head | apply Foc.tail)) (by
              have := flatT_get _ i x hx
              rw [← hb3, List.drop_take, List.drop_drop, List.take_take] at this
              rw [Nat.mul_comm i 6]
              rw [Nat.min_eq_left (by omega)] at this
              exact this)) rfl ?_
            refine TL.eff (Eff.alloc zr35 rfl) rfl fun b13 => ?_
            refine TL.skp (Skp.storeA (vs := x.v) sz35 rfl rfl rfl (by repeat (first | exact Foc.head | apply Foc.tail)) (Nat.le_of_ble_eq_true rfl) rfl) ?_
            refine TL.next ?_
            by_cases hdup : dupN (entL (ws.take k)) (entOf w).name i = true
            · rw [hdup]
              refine TC.region ?_
              refine TL.val (Yl.move rfl) rfl ?_
              refine TL.val (Yl.move rfl) rfl ?_
              refine TL.no rfl rfl rfl rfl rfl ?_
              refine TL.no rfl rfl rfl rfl rfl ?_
              refine TL.no rfl rfl rfl rfl rfl ?_
              refine TL.no rfl rfl rfl rfl rfl ?_
              refine TL.no rfl rfl rfl rfl rfl ?_
              refine TL.val (Yl.pickT rfl rfl) rfl ?_
              refine TL.val (Yl.assign rfl) rfl ?_
              refine TL.next ?_
              refine TC.region ?_
              refine TL.val (Yl.add rfl rfl (wI (by omega))) rfl ?_
              refine TL.val (Yl.move rfl) rfl ?_
              exact TL.done (Inv.again (i + 1) (by omega) (by omega) ⟨rfl, rfl, rfl, rfl, rfl, rfl, rfl, (by rw [dupN_succ hx, hdup]; rfl), rfl, rfl, rfl, trivial⟩ (fun _ h => h.sub (by repeat (first | exact List.Sublist.refl _ | refine List.Sublist.cons_cons _ ?_ | refine List.Sublist.cons _ ?_))))
            · replace hdup := Bool.eq_false_iff.2 hdup
              rw [hdup]
              refine TC.region ?_
              refine TL.val (Yl.move rfl) rfl ?_
              refine TL.val (Yl.move rfl) rfl ?_
              refine TL.yes rfl rfl rfl ?_
              refine TL.val (Yl.fieldAddr (k := 9) (m := 0) (o := 0) Tryz.underlying35 rfl sz9 rfl rfl) rfl ?_
              refine TL.yes rfl rfl rfl ?_
              refine TL.val (Yl.load1 Tryz.underlying9 rfl rfl (by repeat (first | exact Foc.head | apply Foc.tail)) rfl) rfl ?_
              refine TL.yes rfl rfl rfl ?_
              refine TL.val (Yl.fieldAddr (k := 9) (m := 0) (o := 0) Tryz.underlying35 rfl sz9 rfl rfl) rfl ?_
              refine TL.yes rfl rfl rfl ?_
              refine TL.val (Yl.load1 Tryz.underlying9 rfl rfl (by repeat (first | exact Foc.head | apply Foc.tail)) rfl) rfl ?_
              refine TL.yes rfl rfl rfl ?_
              refine TL.val (Yl.eqlS rfl rfl rfl) rfl ?_
              refine TL.val (Yl.pickF rfl rfl) rfl ?_
              refine TL.val (Yl.assign rfl) rfl ?_
              refine TL.next ?_
              refine TC.region ?_
              refine TL.val (Yl.add rfl rfl (wI (by omega))) rfl ?_
              refine TL.val (Yl.move rfl) rfl ?_
              exact TL.done (Inv.again (i + 1) (by omega) (by omega) ⟨rfl, rfl, rfl, rfl, rfl, rfl, rfl, (by rw [dupN_succ hx, hdup]; rfl), rfl, rfl, rfl, trivial⟩ (fun _ h => h.sub (by repeat (first | exact List.Sublist.refl _ | refine List.Sublist.cons_cons _ ?_ | refine List.Sublist.cons _ ?_))))
          · replace hc93 := of_decide_eq_false hc93
            refine TC.exit_next rfl ?_
            refine TC.seq ?_
            obtain rfl : i = (entL (ws.take k)).length := by omega
            by_cases hall : dupN (entL (ws.take k)) (entOf w).name (entL (ws.take k)).length = true
            · rw [hall]
              refine TC.region ?_
              refine TL.val (Yl.move rfl) rfl ?_
              refine TL.val (Yl.not rfl) rfl ?_
              refine TL.next ?_
              refine TC.no rfl ?_
              refine TC.skip_next ?_
              refine TC.region ?_
              refine TL.val (Yl.add rfl rfl (wI (by omega))) rfl ?_
              refine TL.val (Yl.move rfl) rfl ?_
              exact TL.done (Inv.again (k + 1, v, H1) ⟨by show k + 1 ≤ _; omega, by show SlOf 35 6 (flatT (entL (ws.take (k + 1)))) v H1; rw [entL_snoc hw, entStep, if_pos hall]; exact hv⟩ (show Nat.min n 8 - (k + 1) < Nat.min n 8 - k by omega) ⟨rfl, rfl, rfl, rfl, rfl, trivial⟩ (fun _ h => h.sub (by repeat (first | exact List.Sublist.refl _ | refine List.Sublist.cons_cons _ ?_ | refine List.Sublist.cons _ ?_))))
            · replace hall := Bool.eq_false_iff.2 hall
              rw [hall]
              refine TC.region ?_
              refine TL.val (Yl.move rfl) rfl ?_
              refine TL.val (Yl.not rfl) rfl ?_
              refine TL.next ?_
              refine TC.yes rfl ?_
              refine TC.region ?_
              refine TL.val (Yl.move rfl) rfl ?_
              refine TL.val (Yl.loadA (vs := (entOf w).v) Tryz.underlying35 rfl sz35 rfl (by repeat (first | exact Foc.head | apply Foc.tail)) rfl) rfl ?_
              refine TL.eff (Eff.lits [_] (vs := [.agg ⟨(entOf w).v⟩]) (cs := (entOf w).v) Tryz.underlying24 sz35 zr35 rfl ⟨rfl, trivial⟩ rfl (by simp; rfl) (by simp [Value.cells]) rfl) rfl fun b109 => ?_
              refine TL.eff (Eff.app (sz := 6) (bs := 72) (m := 1) (news := (entOf w).v) (R := [(b14, oC (namesL.map vS) 9), (b, .cells ⟨cs⟩ tE fE)] ++ Fr) Tryz.underlying24 Tryz.underlying24 (.inl ⟨_, rfl⟩) sz35 by35 zr35 rfl rfl rfl hv (fun _ h => Own.mid (A := [(b14, oC (namesL.map vS) 9), (b, .cells ⟨cs⟩ tE fE)]) (h.sub (.cons _ (.cons _ (.refl _))))) (Src.sl .head rfl) rfl (by intro y hy; simp [TE.v] at hy; rcases hy with rfl | rfl | rfl | rfl | rfl | rfl <;> rfl) (by decide) (by decide) (by rw [flatT_length]; show (_ + 6) * 72 ≤ _; omega)) rfl fun p => ?_
              refine TL.val (Yl.assign rfl) rfl ?_
              refine TL.next ?_
              refine TC.region ?_
              refine TL.val (Yl.add rfl rfl (wI (by omega))) rfl ?_
              refine TL.val (Yl.move rfl) rfl ?_
              exact TL.done (Inv.again (k + 1, p.1.1, p.1.2) ⟨by show k + 1 ≤ _; omega, by show SlOf 35 6 (flatT (entL (ws.take (k + 1)))) p.1.1 p.1.2; rw [entL_snoc hw, entStep, hall, if_neg (by decide), flatT_append, flatT_one]; exact p.2⟩ (show Nat.min n 8 - (k + 1) < Nat.min n 8 - k by omega) ⟨rfl, rfl, rfl, rfl, rfl, trivial⟩ (fun _ h => Own.mid (A := p.1.2) (H1 := [(b14, _), (b, _)]) h))
        · replace hc85 := of_decide_eq_false hc85
          have hE : entOf w = ⟨nameOf w, [], dataOf w, 48, 420⟩ := by unfold entOf; rw [if_neg (by omega), if_neg (by omega), if_neg (by omega)]
          refine TC.draws [16] _ mixed (by kernel_rfl) rfl (fun _ h => h) ?_
          refine TA.pure 0 rfl (by kernel_rfl) (Yl.move rfl) rfl ?_
          refine TA.pure 1 rfl (by kernel_rfl) (Yl.shr16 (c := 7) rfl rfl) rfl ?_
          refine TA.pure 2 rfl (by kernel_rfl) (Yl.rem (r := (((shr16 w 7).toNat % 20 : Nat) : Int)) rfl rfl (by omega) (by omega) (by omega)) rfl ?_
          refine TA.pure 3 rfl (by kernel_rfl) (Yl.conv Tryz.underlying38 Tryz.underlying3 rfl (wI (by omega))) rfl ?_
          refine TA.pure 7 rfl (by kernel_rfl) (Yl.move rfl) rfl ?_
          refine TA.pure 8 rfl (by kernel_rfl) (Yl.shr16 (c := 8) rfl rfl) rfl ?_
          refine TA.pure 9 rfl (by kernel_rfl) (Yl.rem (r := ((shr16 w 8).toNat : Int) % 26) rfl rfl (by omega) (by omega) rfl) rfl ?_
          refine TA.pure 10 rfl (by kernel_rfl) (Yl.add (r := 97 + ((shr16 w 8).toNat : Int) % 26) rfl rfl (by rw [wrap_u16]; omega)) rfl ?_
          refine TA.pure 11 rfl (by kernel_rfl) (Yl.conv Tryz.underlying38 Tryz.underlying5 rfl (w8 _)) rfl ?_
          refine TA.two 4 12 (by kernel_rfl) ?_ ?_
          · refine Up.eff rfl rfl (Eff.makeB (i := (shr16 w 7).toNat % 20) (j := (shr16 w 7).toNat % 20) Tryz.underlying40 sz5 by5 zr5 rfl rfl rfl rfl (by omega) (by omega)) rfl (fun _ => .inr (fun _ h => h.sub (by repeat (first | exact List.Sublist.refl _ | refine List.Sublist.cons_cons _ ?_ | refine List.Sublist.cons _ ?_)))) fun b38 => ?_
            refine TA.two 5 12 (by kernel_rfl) ?_ ?_
            · refine Up.val rfl rfl (Yl.strB (m := List.replicate ((shr16 w 7).toNat % 20) 0) Tryz.underlying40 Tryz.underlying5 Tryz.underlying9 rfl (by repeat (first | exact Foc.head | apply Foc.tail)) (by rw [List.drop_zero, List.take_of_length_le (by simp)]) (by simp)) rfl (.inr (fun _ h => h.sub (by repeat (first | exact List.Sublist.refl _ | refine List.Sublist.cons_cons _ ?_ | refine List.Sublist.cons _ ?_)))) ?_
              refine TA.pure 6 rfl (by kernel_rfl) (Yl.addS (b := dataB) rfl rfl (by rw [List.length_replicate]; show _ + 4 ≤ _; omega)) rfl ?_
              refine TA.one 12 (by kernel_rfl) ?_
              refine Up.eff rfl rfl (Eff.lits1 [_] (vs := bV [toU8 (97 + ((shr16 w 8).toNat : Int) % 26)]) Tryz.underlying40 sz5 zr5 rfl ⟨rfl, trivial⟩ rfl rfl rfl) rfl (fun _ => .inr (fun _ h => h.sub (by repeat (first | exact List.Sublist.refl _ | refine List.Sublist.cons_cons _ ?_ | refine List.Sublist.cons _ ?_)))) fun b46 => ?_
              refine TA.one 13 (by kernel_rfl) ?_
              refine Up.val rfl rfl (Yl.strB (l := [toU8 (97 + ((shr16 w 8).toNat : Int) % 26)]) (m := [toU8 (97 + ((shr16 w 8).toNat : Int) % 26)]) Tryz.underlying40 Tryz.underlying5 Tryz.underlying9 rfl (by repeat (first | exact Foc.head | apply Foc.tail)) rfl (Nat.le_refl 1)) rfl (.inr (fun _ h => h.sub (by repeat (first | exact List.Sublist.refl _ | refine List.Sublist.cons_cons _ ?_ | refine List.Sublist.cons _ ?_)))) ?_
              refine TA.pure 14 rfl (by kernel_rfl) (Yl.addS rfl rfl (by rw [List.length_append, List.length_replicate]; show _ + 4 + 1 ≤ _; omega)) rfl ?_
              refine TA.pure 15 rfl (by kernel_rfl) (Yl.fieldAddr (k := 9) (m := 2) (o := 2) Tryz.underlying35 rfl sz9 rfl rfl) rfl ?_
              refine TA.one 16 (by kernel_rfl) ?_
              refine Up.skp rfl rfl (Skp.store1 sz9 rfl rfl rfl (by repeat (first | exact Foc.head | apply Foc.tail)) (Nat.le_of_ble_eq_true rfl) rfl) (.inl rfl) ?_
              refine TA.next (by kernel_rfl) ?_
              refine TC.seq ?_
              refine TC.region ?_
              refine TL.val (Yl.assign rfl) rfl ?_
              refine TL.next ?_
              refine TC.seq ?_
              refine TC.seq ?_
              refine TC.region ?_
              refine TL.val (Yl.move rfl) rfl ?_
              refine TL.val (Yl.lenOf hv (flatT_length _) (by omega) Tryz.underlying24 rfl) rfl ?_
              refine TL.val (Yl.move rfl) rfl ?_
              refine TL.next ?_
              refine TC.block ?_
              refine TC.loopI (σ := Nat) (fun i => [(3, sl b14 0 10 10), (19, sl b off (Nat.min n 8) cap), (20, .int .i64 ((Nat.min n 8 : Nat) : Int)), (4, v), (21, .int .i64 (k : Int)), (6, .int .u16 (w.toNat : Int)), (7, pt b7 0), (11, .bool (dupN (entL (ws.take k)) (entOf w).name i)), (90, v), (91, .int .i64 ((entL (ws.take k)).length : Int)), (92, .int .i64 (i : Int))]) (fun i => (b7, oC (entOf w).v 35) :: (b14, oC (namesL.map vS) 9) :: (b, .cells ⟨cs⟩ tE fE) :: (H1 ++ Fr)) (fun i => i ≤ (entL (ws.take k)).length) (fun i => (entL (ws.take k)).length - i) 0 ⟨rfl, rfl, rfl, rfl, rfl, rfl, rfl, rfl, rfl, rfl, rfl, trivial⟩ (fun _ h => by rw [hE]; exact h.sub (by repeat (first | exact List.Sublist.refl _ | refine List.Sublist.cons_cons _ ?_ | refine List.Sublist.cons _ ?_))) (Nat.zero_le _) (fun i hi => ?_)
              refine TC.seq ?_
              refine TC.region ?_
              refine TL.val (Yl.lss rfl rfl rfl) rfl ?_
              refine TL.next ?_
              refine TC.seq ?_
              refine TC.cond rfl (fun hc93 => ?_) (fun hc93 => ?_)
              · replace hc93 := of_decide_eq_true hc93
                refine TC.skip_next ?_
                refine TC.seq ?_
                refine TC.block ?_
                refine TC.seq ?_
                obtain ⟨x, hx⟩ : ∃ x, (entL (ws.take k))[i]? = some x := ⟨(entL (ws.take k))[i]'(by omega), List.getElem?_eq_getElem (by omega)⟩
                obtain ⟨bb, boff, bn, bcap, bcs, rfl, rfl, hb1, hb2, hb3⟩ : ∃ b off n cap cs, v = sl b off n cap ∧ H1 = [(b, oC cs 35)] ∧ n ≤ cap ∧ off + cap * 6 ≤ cs.length ∧ (cs.drop off).take (n * 6) = flatT (entL (ws.take k)) := by
                  rcases hv with ⟨_, he, _⟩ | h
                  · have := congrArg List.length he; rw [flatT_length, List.length_nil] at this; omega
                  · exact h
                have hb4 : bn = (entL (ws.take k)).length := by
                  have h1 := congrArg List.length hb3
                  rw [flatT_length, List.length_take, List.length_drop] at h1
                  have h2 : bn * 6 ≤ bcap * 6 := Nat.mul_le_mul_right _ hb1
                  omega
                refine TC.region ?_
                refine TL.val (Yl.idxAddrS (j := i) (o := boff + i * 6) Tryz.underlying24 sz35 rfl rfl rfl (by omega) rfl) rfl ?_
                refine TL.val (Yl.loadA (vs := x.v) Tryz.underlying35 rfl sz35 rfl (by repeat (first | exact Foc.head | apply Foc.tail)) (by
                  have := flatT_get _ i x hx
                  rw [← hb3, List.drop_take, List.drop_drop, List.take_take] at this
                  rw [Nat.mul_comm i 6]
                  rw [Nat.min_eq_left (by omega)] at this
                  exact this)) rfl ?_
                refine TL.eff (Eff.alloc zr35 rfl) rfl fun b13 => ?_
                refine TL.skp (Skp.storeA (vs := x.v) sz35 rfl rfl rfl (by repeat (first | exact Foc.head | apply Foc.tail)) (Nat.le_of_ble_eq_true rfl) rfl) ?_
                refine TL.next ?_
                by_cases hdup : dupN (entL (ws.take k)) (entOf w).name i = true
                · rw [hdup]
                  refine TC.region ?_
                  refine TL.val (Yl.move rfl) rfl ?_
                  refine TL.val (Yl.move rfl) rfl ?_
                  refine TL.no rfl rfl rfl rfl rfl ?_
                  refine TL.no rfl rfl rfl rfl rfl ?_
                  refine TL.no rfl rfl rfl rfl rfl ?_
                  refine TL.no rfl rfl rfl rfl rfl ?_
                  refine TL.no rfl rfl rfl rfl rfl ?_
                  refine TL.val (Yl.pickT rfl rfl) rfl ?_
                  refine TL.val (Yl.assign rfl) rfl ?_
                  refine TL.next ?_
                  refine TC.region ?_
                  refine TL.val (Yl.add rfl rfl (wI (by omega))) rfl ?_
                  refine TL.val (Yl.move rfl) rfl ?_
                  exact TL.done (Inv.again (i + 1) (by omega) (by omega) ⟨rfl, rfl, rfl, rfl, rfl, rfl, rfl, (by rw [dupN_succ hx, hdup]; rfl), rfl, rfl, rfl, trivial⟩ (fun _ h => h.sub (by repeat (first | exact List.Sublist.refl _ | refine List.Sublist.cons_cons _ ?_ | refine List.Sublist.cons _ ?_))))
                · replace hdup := Bool.eq_false_iff.2 hdup
                  rw [hdup]
                  refine TC.region ?_
                  refine TL.val (Yl.move rfl) rfl ?_
                  refine TL.val (Yl.move rfl) rfl ?_
                  refine TL.yes rfl rfl rfl ?_
                  refine TL.val (Yl.fieldAddr (k := 9) (m := 0) (o := 0) Tryz.underlying35 rfl sz9 rfl rfl) rfl ?_
                  refine TL.yes rfl rfl rfl ?_
                  refine TL.val (Yl.load1 Tryz.underlying9 rfl rfl (by repeat (first | exact Foc.head | apply Foc.tail)) rfl) rfl ?_
                  refine TL.yes rfl rfl rfl ?_
                  refine TL.val (Yl.fieldAddr (k := 9) (m := 0) (o := 0) Tryz.underlying35 rfl sz9 rfl rfl) rfl ?_
                  refine TL.yes rfl rfl rfl ?_
                  refine TL.val (Yl.load1 Tryz.underlying9 rfl rfl (by repeat (first | exact Foc.head | apply Foc.tail)) rfl) rfl ?_
                  refine TL.yes rfl rfl rfl ?_
                  refine TL.val (Yl.eqlS rfl rfl rfl) rfl ?_
                  refine TL.val (Yl.pickF rfl rfl) rfl ?_
                  refine TL.val (Yl.assign rfl) rfl ?_
                  refine TL.next ?_
                  refine TC.region ?_
                  refine TL.val (Yl.add rfl rfl (wI (by omega))) rfl ?_
                  refine TL.val (Yl.move rfl) rfl ?_
                  exact TL.done (Inv.again (i + 1) (by omega) (by omega) ⟨rfl, rfl, rfl, rfl, rfl, rfl, rfl, (by rw [dupN_succ hx, hdup]; rfl), rfl, rfl, rfl, trivial⟩ (fun _ h => h.sub (by repeat (first | exact List.Sublist.refl _ | refine List.Sublist.cons_cons _ ?_ | refine List.Sublist.cons _ ?_))))
              · replace hc93 := of_decide_eq_false hc93
                refine TC.exit_next rfl ?_
                refine TC.seq ?_
                obtain rfl : i = (entL (ws.take k)).length := by omega
                by_cases hall : dupN (entL (ws.take k)) (entOf w).name (entL (ws.take k)).length = true
                · rw [hall]
                  refine TC.region ?_
                  refine TL.val (Yl.move rfl) rfl ?_
                  refine TL.val (Yl.not rfl) rfl ?_
                  refine TL.next ?_
                  refine TC.no rfl ?_
                  refine TC.skip_next ?_
                  refine TC.region ?_
                  refine TL.val (Yl.add rfl rfl (wI (by omega))) rfl ?_
                  refine TL.val (Yl.move rfl) rfl ?_
                  exact TL.done (Inv.again (k + 1, v, H1) ⟨by show k + 1 ≤ _; omega, by show SlOf 35 6 (flatT (entL (ws.take (k + 1)))) v H1; rw [entL_snoc hw, entStep, if_pos hall]; exact hv⟩ (show Nat.min n 8 - (k + 1) < Nat.min n 8 - k by omega) ⟨rfl, rfl, rfl, rfl, rfl, trivial⟩ (fun _ h => h.sub (by repeat (first | exact List.Sublist.refl _ | refine List.Sublist.cons_cons _ ?_ | refine List.Sublist.cons _ ?_))))
                · replace hall := Bool.eq_false_iff.2 hall
                  rw [hall]
                  refine TC.region ?_
                  refine TL.val (Yl.move rfl) rfl ?_
                  refine TL.val (Yl.not rfl) rfl ?_
                  refine TL.next ?_
                  refine TC.yes rfl ?_
                  refine TC.region ?_
                  refine TL.val (Yl.move rfl) rfl ?_
                  refine TL.val (Yl.loadA (vs := (entOf w).v) Tryz.underlying35 rfl sz35 rfl (by repeat (first | exact Foc.head | apply Foc.tail)) rfl) rfl ?_
                  refine TL.eff (Eff.lits [_] (vs := [.agg ⟨(entOf w).v⟩]) (cs := (entOf w).v) Tryz.underlying24 sz35 zr35 rfl ⟨rfl, trivial⟩ rfl (by simp; rfl) (by simp [Value.cells]) rfl) rfl fun b109 => ?_
                  refine TL.eff (Eff.app (sz := 6) (bs := 72) (m := 1) (news := (entOf w).v) (R := [(b14, oC (namesL.map vS) 9), (b, .cells ⟨cs⟩ tE fE)] ++ Fr) Tryz.underlying24 Tryz.underlying24 (.inl ⟨_, rfl⟩) sz35 by35 zr35 rfl rfl rfl hv (fun _ h => Own.mid (A := [(b14, oC (namesL.map vS) 9), (b, .cells ⟨cs⟩ tE fE)]) (h.sub (.cons _ (.cons _ (.refl _))))) (Src.sl .head rfl) rfl (by intro y hy; simp [TE.v] at hy; rcases hy with rfl | rfl | rfl | rfl | rfl | rfl <;> rfl) (by decide) (by decide) (by rw [flatT_length]; show (_ + 6) * 72 ≤ _; omega)) rfl fun p => ?_
                  refine TL.val (Yl.assign rfl) rfl ?_
                  refine TL.next ?_
                  refine TC.region ?_
                  refine TL.val (Yl.add rfl rfl (wI (by omega))) rfl ?_
                  refine TL.val (Yl.move rfl) rfl ?_
                  exact TL.done (Inv.again (k + 1, p.1.1, p.1.2) ⟨by show k + 1 ≤ _; omega, by show SlOf 35 6 (flatT (entL (ws.take (k + 1)))) p.1.1 p.1.2; rw [entL_snoc hw, entStep, hall, if_neg (by decide), flatT_append, flatT_one]; exact p.2⟩ (show Nat.min n 8 - (k + 1) < Nat.min n 8 - k by omega) ⟨rfl, rfl, rfl, rfl, rfl, trivial⟩ (fun _ h => Own.mid (A := p.1.2) (H1 := [(b14, _), (b, _)]) h))
            · refine Up.eff rfl rfl (Eff.lits1 [_] (vs := bV [toU8 (97 + ((shr16 w 8).toNat : Int) % 26)]) Tryz.underlying40 sz5 zr5 rfl ⟨rfl, trivial⟩ rfl rfl rfl) rfl (fun _ => .inr (fun _ h => h.sub (by repeat (first | exact List.Sublist.refl _ | refine List.Sublist.cons_cons _ ?_ | refine List.Sublist.cons _ ?_)))) fun b46 => ?_
              refine TA.two 5 13 (by kernel_rfl) ?_ ?_
              · refine Up.val rfl rfl (Yl.strB (m := List.replicate ((shr16 w 7).toNat % 20) 0) Tryz.underlying40 Tryz.underlying5 Tryz.underlying9 rfl (by repeat (first | exact Foc.head | apply Foc.tail)) (by rw [List.drop_zero, List.take_of_length_le (by simp)]) (by simp)) rfl (.inr (fun _ h => h.sub (by repeat (first | exact List.Sublist.refl _ | refine List.Sublist.cons_cons _ ?_ | refine List.Sublist.cons _ ?_)))) ?_
                refine TA.pure 6 rfl (by kernel_rfl) (Yl.addS (b := dataB) rfl rfl (by rw [List.length_replicate]; show _ + 4 ≤ _; omega)) rfl ?_
                refine TA.one 13 (by kernel_rfl) ?_
                refine Up.val rfl rfl (Yl.strB (l := [toU8 (97 + ((shr16 w 8).toNat : Int) % 26)]) (m := [toU8 (97 + ((shr16 w 8).toNat : Int) % 26)]) Tryz.underlying40 Tryz.underlying5 Tryz.underlying9 rfl (by repeat (first | exact Foc.head | apply Foc.tail)) rfl (Nat.le_refl 1)) rfl (.inr (fun _ h => h.sub (by repeat (first | exact List.Sublist.refl _ | refine List.Sublist.cons_cons _ ?_ | refine List.Sublist.cons _ ?_)))) ?_
                refine TA.pure 14 rfl (by kernel_rfl) (Yl.addS rfl rfl (by rw [List.length_append, List.length_replicate]; show _ + 4 + 1 ≤ _; omega)) rfl ?_
                refine TA.pure 15 rfl (by kernel_rfl) (Yl.fieldAddr (k := 9) (m := 2) (o := 2) Tryz.underlying35 rfl sz9 rfl rfl) rfl ?_
                refine TA.one 16 (by kernel_rfl) ?_
                refine Up.skp rfl rfl (Skp.store1 sz9 rfl rfl rfl (by repeat (first | exact Foc.head | apply Foc.tail)) (Nat.le_of_ble_eq_true rfl) rfl) (.inl rfl) ?_
                refine TA.next (by kernel_rfl) ?_
                refine TC.seq ?_
                refine TC.region ?_
                refine TL.val (Yl.assign rfl) rfl ?_
                refine TL.next ?_
                refine TC.seq ?_
                refine TC.seq ?_
                refine TC.region ?_
                refine TL.val (Yl.move rfl) rfl ?_
                refine TL.val (Yl.lenOf hv (flatT_length _) (by omega) Tryz.underlying24 rfl) rfl ?_
                refine TL.val (Yl.move rfl) rfl ?_
                refine TL.next ?_
                refine TC.block ?_
                refine TC.loopI (σ := Nat) (fun i => [(3, sl b14 0 10 10), (19, sl b off (Nat.min n 8) cap), (20, .int .i64 ((Nat.min n 8 : Nat) : Int)), (4, v), (21, .int .i64 (k : Int)), (6, .int .u16 (w.toNat : Int)), (7, pt b7 0), (11, .bool (dupN (entL (ws.take k)) (entOf w).name i)), (90, v), (91, .int .i64 ((entL (ws.take k)).length : Int)), (92, .int .i64 (i : Int))]) (fun i => (b7, oC (entOf w).v 35) :: (b14, oC (namesL.map vS) 9) :: (b, .cells ⟨cs⟩ tE fE) :: (H1 ++ Fr)) (fun i => i ≤ (entL (ws.take k)).length) (fun i => (entL (ws.take k)).length - i) 0 ⟨rfl, rfl, rfl, rfl, rfl, rfl, rfl, rfl, rfl, rfl, rfl, trivial⟩ (fun _ h => by rw [hE]; exact h.sub (by repeat (first | exact List.Sublist.refl _ | refine List.Sublist.cons_cons _ ?_ | refine List.Sublist.cons _ ?_))) (Nat.zero_le _) (fun i hi => ?_)
                refine TC.seq ?_
                refine TC.region ?_
                refine TL.val (Yl.lss rfl rfl rfl) rfl ?_
                refine TL.next ?_
                refine TC.seq ?_
                refine TC.cond rfl (fun hc93 => ?_) (fun hc93 => ?_)
                · replace hc93 := of_decide_eq_true hc93
                  refine TC.skip_next ?_
                  refine TC.seq ?_
                  refine TC.block ?_
                  refine TC.seq ?_
                  obtain ⟨x, hx⟩ : ∃ x, (entL (ws.take k))[i]? = some x := ⟨(entL (ws.take k))[i]'(by omega), List.getElem?_eq_getElem (by omega)⟩
                  obtain ⟨bb, boff, bn, bcap, bcs, rfl, rfl, hb1, hb2, hb3⟩ : ∃ b off n cap cs, v = sl b off n cap ∧ H1 = [(b, oC cs 35)] ∧ n ≤ cap ∧ off + cap * 6 ≤ cs.length ∧ (cs.drop off).take (n * 6) = flatT (entL (ws.take k)) := by
                    rcases hv with ⟨_, he, _⟩ | h
                    · have := congrArg List.length he; rw [flatT_length, List.length_nil] at this; omega
                    · exact h
                  have hb4 : bn = (entL (ws.take k)).length := by
                    have h1 := congrArg List.length hb3
                    rw [flatT_length, List.length_take, List.length_drop] at h1
                    have h2 : bn * 6 ≤ bcap * 6 := Nat.mul_le_mul_right _ hb1
                    omega
                  refine TC.region ?_
                  refine TL.val (Yl.idxAddrS (j := i) (o := boff + i * 6) Tryz.underlying24 sz35 rfl rfl rfl (by omega) rfl) rfl ?_
                  refine TL.val (Yl.loadA (vs := x.v) Tryz.underlying35 rfl sz35 rfl (by repeat (first | exact Foc.head | apply Foc.tail)) (by
                    have := flatT_get _ i x hx
                    rw [← hb3, List.drop_take, List.drop_drop, List.take_take] at this
                    rw [Nat.mul_comm i 6]
                    rw [Nat.min_eq_left (by omega)] at this
                    exact this)) rfl ?_
                  refine TL.eff (Eff.alloc zr35 rfl) rfl fun b13 => ?_
                  refine TL.skp (Skp.storeA (vs := x.v) sz35 rfl rfl rfl (by repeat (first | exact Foc.head | apply Foc.tail)) (Nat.le_of_ble_eq_true rfl) rfl) ?_
                  refine TL.next ?_
                  by_cases hdup : dupN (entL (ws.take k)) (entOf w).name i = true
                  · rw [hdup]
                    refine TC.region ?_
                    refine TL.val (Yl.move rfl) rfl ?_
                    refine TL.val (Yl.move rfl) rfl ?_
                    refine TL.no rfl rfl rfl rfl rfl ?_
                    refine TL.no rfl rfl rfl rfl rfl ?_
                    refine TL.no rfl rfl rfl rfl rfl ?_
                    refine TL.no rfl rfl rfl rfl rfl ?_
                    refine TL.no rfl rfl rfl rfl rfl ?_
                    refine TL.val (Yl.pickT rfl rfl) rfl ?_
                    refine TL.val (Yl.assign rfl) rfl ?_
                    refine TL.next ?_
                    refine TC.region ?_
                    refine TL.val (Yl.add rfl rfl (wI (by omega))) rfl ?_
                    refine TL.val (Yl.move rfl) rfl ?_
                    exact TL.done (Inv.again (i + 1) (by omega) (by omega) ⟨rfl, rfl, rfl, rfl, rfl, rfl, rfl, (by rw [dupN_succ hx, hdup]; rfl), rfl, rfl, rfl, trivial⟩ (fun _ h => h.sub (by repeat (first | exact List.Sublist.refl _ | refine List.Sublist.cons_cons _ ?_ | refine List.Sublist.cons _ ?_))))
                  · replace hdup := Bool.eq_false_iff.2 hdup
                    rw [hdup]
                    refine TC.region ?_
                    refine TL.val (Yl.move rfl) rfl ?_
                    refine TL.val (Yl.move rfl) rfl ?_
                    refine TL.yes rfl rfl rfl ?_
                    refine TL.val (Yl.fieldAddr (k := 9) (m := 0) (o := 0) Tryz.underlying35 rfl sz9 rfl rfl) rfl ?_
                    refine TL.yes rfl rfl rfl ?_
                    refine TL.val (Yl.load1 Tryz.underlying9 rfl rfl (by repeat (first | exact Foc.head | apply Foc.tail)) rfl) rfl ?_
                    refine TL.yes rfl rfl rfl ?_
                    refine TL.val (Yl.fieldAddr (k := 9) (m := 0) (o := 0) Tryz.underlying35 rfl sz9 rfl rfl) rfl ?_
                    refine TL.yes rfl rfl rfl ?_
                    refine TL.val (Yl.load1 Tryz.underlying9 rfl rfl (by repeat (first | exact Foc.head | apply Foc.tail)) rfl) rfl ?_
                    refine TL.yes rfl rfl rfl ?_
                    refine TL.val (Yl.eqlS rfl rfl rfl) rfl ?_
                    refine TL.val (Yl.pickF rfl rfl) rfl ?_
                    refine TL.val (Yl.assign rfl) rfl ?_
                    refine TL.next ?_
                    refine TC.region ?_
                    refine TL.val (Yl.add rfl rfl (wI (by omega))) rfl ?_
                    refine TL.val (Yl.move rfl) rfl ?_
                    exact TL.done (Inv.again (i + 1) (by omega) (by omega) ⟨rfl, rfl, rfl, rfl, rfl, rfl, rfl, (by rw [dupN_succ hx, hdup]; rfl), rfl, rfl, rfl, trivial⟩ (fun _ h => h.sub (by repeat (first | exact List.Sublist.refl _ | refine List.Sublist.cons_cons _ ?_ | refine List.Sublist.cons _ ?_))))
                · replace hc93 := of_decide_eq_false hc93
                  refine TC.exit_next rfl ?_
                  refine TC.seq ?_
                  obtain rfl : i = (entL (ws.take k)).length := by omega
                  by_cases hall : dupN (entL (ws.take k)) (entOf w).name (entL (ws.take k)).length = true
                  · rw [hall]
                    refine TC.region ?_
                    refine TL.val (Yl.move rfl) rfl ?_
                    refine TL.val (Yl.not rfl) rfl ?_
                    refine TL.next ?_
                    refine TC.no rfl ?_
                    refine TC.skip_next ?_
                    refine TC.region ?_
                    refine TL.val (Yl.add rfl rfl (wI (by omega))) rfl ?_
                    refine TL.val (Yl.move rfl) rfl ?_
                    exact TL.done (Inv.again (k + 1, v, H1) ⟨by show k + 1 ≤ _; omega, by show SlOf 35 6 (flatT (entL (ws.take (k + 1)))) v H1; rw [entL_snoc hw, entStep, if_pos hall]; exact hv⟩ (show Nat.min n 8 - (k + 1) < Nat.min n 8 - k by omega) ⟨rfl, rfl, rfl, rfl, rfl, trivial⟩ (fun _ h => h.sub (by repeat (first | exact List.Sublist.refl _ | refine List.Sublist.cons_cons _ ?_ | refine List.Sublist.cons _ ?_))))
                  · replace hall := Bool.eq_false_iff.2 hall
                    rw [hall]
                    refine TC.region ?_
                    refine TL.val (Yl.move rfl) rfl ?_
                    refine TL.val (Yl.not rfl) rfl ?_
                    refine TL.next ?_
                    refine TC.yes rfl ?_
                    refine TC.region ?_
                    refine TL.val (Yl.move rfl) rfl ?_
                    refine TL.val (Yl.loadA (vs := (entOf w).v) Tryz.underlying35 rfl sz35 rfl (by repeat (first | exact Foc.head | apply Foc.tail)) rfl) rfl ?_
                    refine TL.eff (Eff.lits [_] (vs := [.agg ⟨(entOf w).v⟩]) (cs := (entOf w).v) Tryz.underlying24 sz35 zr35 rfl ⟨rfl, trivial⟩ rfl (by simp; rfl) (by simp [Value.cells]) rfl) rfl fun b109 => ?_
                    refine TL.eff (Eff.app (sz := 6) (bs := 72) (m := 1) (news := (entOf w).v) (R := [(b14, oC (namesL.map vS) 9), (b, .cells ⟨cs⟩ tE fE)] ++ Fr) Tryz.underlying24 Tryz.underlying24 (.inl ⟨_, rfl⟩) sz35 by35 zr35 rfl rfl rfl hv (fun _ h => Own.mid (A := [(b14, oC (namesL.map vS) 9), (b, .cells ⟨cs⟩ tE fE)]) (h.sub (.cons _ (.cons _ (.refl _))))) (Src.sl .head rfl) rfl (by intro y hy; simp [TE.v] at hy; rcases hy with rfl | rfl | rfl | rfl | rfl | rfl <;> rfl) (by decide) (by decide) (by rw [flatT_length]; show (_ + 6) * 72 ≤ _; omega)) rfl fun p => ?_
                    refine TL.val (Yl.assign rfl) rfl ?_
                    refine TL.next ?_
                    refine TC.region ?_
                    refine TL.val (Yl.add rfl rfl (wI (by omega))) rfl ?_
                    refine TL.val (Yl.move rfl) rfl ?_
                    exact TL.done (Inv.again (k + 1, p.1.1, p.1.2) ⟨by show k + 1 ≤ _; omega, by show SlOf 35 6 (flatT (entL (ws.take (k + 1)))) p.1.1 p.1.2; rw [entL_snoc hw, entStep, hall, if_neg (by decide), flatT_append, flatT_one]; exact p.2⟩ (show Nat.min n 8 - (k + 1) < Nat.min n 8 - k by omega) ⟨rfl, rfl, rfl, rfl, rfl, trivial⟩ (fun _ h => Own.mid (A := p.1.2) (H1 := [(b14, _), (b, _)]) h))
              · refine Up.val rfl rfl (Yl.strB (l := [toU8 (97 + ((shr16 w 8).toNat : Int) % 26)]) (m := [toU8 (97 + ((shr16 w 8).toNat : Int) % 26)]) Tryz.underlying40 Tryz.underlying5 Tryz.underlying9 rfl (by repeat (first | exact Foc.head | apply Foc.tail)) rfl (Nat.le_refl 1)) rfl (.inr (fun _ h => h.sub (by repeat (first | exact List.Sublist.refl _ | refine List.Sublist.cons_cons _ ?_ | refine List.Sublist.cons _ ?_)))) ?_
                refine TA.one 5 (by kernel_rfl) ?_
                refine Up.val rfl rfl (Yl.strB (m := List.replicate ((shr16 w 7).toNat % 20) 0) Tryz.underlying40 Tryz.underlying5 Tryz.underlying9 rfl (by repeat (first | exact Foc.head | apply Foc.tail)) (by rw [List.drop_zero, List.take_of_length_le (by simp)]) (by simp)) rfl (.inr (fun _ h => h.sub (by repeat (first | exact List.Sublist.refl _ | refine List.Sublist.cons_cons _ ?_ | refine List.Sublist.cons _ ?_)))) ?_
                refine TA.pure 6 rfl (by kernel_rfl) (Yl.addS (b := dataB) rfl rfl (by rw [List.length_replicate]; show _ + 4 ≤ _; omega)) rfl ?_
                refine TA.pure 14 rfl (by kernel_rfl) (Yl.addS rfl rfl (by rw [List.length_append, List.length_replicate]; show _ + 4 + 1 ≤ _; omega)) rfl ?_
                refine TA.pure 15 rfl (by kernel_rfl) (Yl.fieldAddr (k := 9) (m := 2) (o := 2) Tryz.underlying35 rfl sz9 rfl rfl) rfl ?_
                refine TA.one 16 (by kernel_rfl) ?_
                refine Up.skp rfl rfl (Skp.store1 sz9 rfl rfl rfl (by repeat (first | exact Foc.head | apply Foc.tail)) (Nat.le_of_ble_eq_true rfl) rfl) (.inl rfl) ?_
                refine TA.next (by kernel_rfl) ?_
                refine TC.seq ?_
                refine TC.region ?_
                refine TL.val (Yl.assign rfl) rfl ?_
                refine TL.next ?_
                refine TC.seq ?_
                refine TC.seq ?_
                refine TC.region ?_
                refine TL.val (Yl.move rfl) rfl ?_
                refine TL.val (Yl.lenOf hv (flatT_length _) (by omega) Tryz.underlying24 rfl) rfl ?_
                refine TL.val (Yl.move rfl) rfl ?_
                refine TL.next ?_
                refine TC.block ?_
                refine TC.loopI (σ := Nat) (fun i => [(3, sl b14 0 10 10), (19, sl b off (Nat.min n 8) cap), (20, .int .i64 ((Nat.min n 8 : Nat) : Int)), (4, v), (21, .int .i64 (k : Int)), (6, .int .u16 (w.toNat : Int)), (7, pt b7 0), (11, .bool (dupN (entL (ws.take k)) (entOf w).name i)), (90, v), (91, .int .i64 ((entL (ws.take k)).length : Int)), (92, .int .i64 (i : Int))]) (fun i => (b7, oC (entOf w).v 35) :: (b14, oC (namesL.map vS) 9) :: (b, .cells ⟨cs⟩ tE fE) :: (H1 ++ Fr)) (fun i => i ≤ (entL (ws.take k)).length) (fun i => (entL (ws.take k)).length - i) 0 ⟨rfl, rfl, rfl, rfl, rfl, rfl, rfl, rfl, rfl, rfl, rfl, trivial⟩ (fun _ h => by rw [hE]; exact h.sub (by repeat (first | exact List.Sublist.refl _ | refine List.Sublist.cons_cons _ ?_ | refine List.Sublist.cons _ ?_))) (Nat.zero_le _) (fun i hi => ?_)
                refine TC.seq ?_
                refine TC.region ?_
                refine TL.val (Yl.lss rfl rfl rfl) rfl ?_
                refine TL.next ?_
                refine TC.seq ?_
                refine TC.cond rfl (fun hc93 => ?_) (fun hc93 => ?_)
                · replace hc93 := of_decide_eq_true hc93
                  refine TC.skip_next ?_
                  refine TC.seq ?_
                  refine TC.block ?_
                  refine TC.seq ?_
                  obtain ⟨x, hx⟩ : ∃ x, (entL (ws.take k))[i]? = some x := ⟨(entL (ws.take k))[i]'(by omega), List.getElem?_eq_getElem (by omega)⟩
                  obtain ⟨bb, boff, bn, bcap, bcs, rfl, rfl, hb1, hb2, hb3⟩ : ∃ b off n cap cs, v = sl b off n cap ∧ H1 = [(b, oC cs 35)] ∧ n ≤ cap ∧ off + cap * 6 ≤ cs.length ∧ (cs.drop off).take (n * 6) = flatT (entL (ws.take k)) := by
                    rcases hv with ⟨_, he, _⟩ | h
                    · have := congrArg List.length he; rw [flatT_length, List.length_nil] at this; omega
                    · exact h
                  have hb4 : bn = (entL (ws.take k)).length := by
                    have h1 := congrArg List.length hb3
                    rw [flatT_length, List.length_take, List.length_drop] at h1
                    have h2 : bn * 6 ≤ bcap * 6 := Nat.mul_le_mul_right _ hb1
                    omega
                  refine TC.region ?_
                  refine TL.val (Yl.idxAddrS (j := i) (o := boff + i * 6) Tryz.underlying24 sz35 rfl rfl rfl (by omega) rfl) rfl ?_
                  refine TL.val (Yl.loadA (vs := x.v) Tryz.underlying35 rfl sz35 rfl (by repeat (first | exact Foc.head | apply Foc.tail)) (by
                    have := flatT_get _ i x hx
                    rw [← hb3, List.drop_take, List.drop_drop, List.take_take] at this
                    rw [Nat.mul_comm i 6]
                    rw [Nat.min_eq_left (by omega)] at this
                    exact this)) rfl ?_
                  refine TL.eff (Eff.alloc zr35 rfl) rfl fun b13 => ?_
                  refine TL.skp (Skp.storeA (vs := x.v) sz35 rfl rfl rfl (by repeat (first | exact Foc.head | apply Foc.tail)) (Nat.le_of_ble_eq_true rfl) rfl) ?_
                  refine TL.next ?_
                  by_cases hdup : dupN (entL (ws.take k)) (entOf w).name i = true
                  · rw [hdup]
                    refine TC.region ?_
                    refine TL.val (Yl.move rfl) rfl ?_
                    refine TL.val (Yl.move rfl) rfl ?_
                    refine TL.no rfl rfl rfl rfl rfl ?_
                    refine TL.no rfl rfl rfl rfl rfl ?_
                    refine TL.no rfl rfl rfl rfl rfl ?_
                    refine TL.no rfl rfl rfl rfl rfl ?_
                    refine TL.no rfl rfl rfl rfl rfl ?_
                    refine TL.val (Yl.pickT rfl rfl) rfl ?_
                    refine TL.val (Yl.assign rfl) rfl ?_
                    refine TL.next ?_
                    refine TC.region ?_
                    refine TL.val (Yl.add rfl rfl (wI (by omega))) rfl ?_
                    refine TL.val (Yl.move rfl) rfl ?_
                    exact TL.done (Inv.again (i + 1) (by omega) (by omega) ⟨rfl, rfl, rfl, rfl, rfl, rfl, rfl, (by rw [dupN_succ hx, hdup]; rfl), rfl, rfl, rfl, trivial⟩ (fun _ h => h.sub (by repeat (first | exact List.Sublist.refl _ | refine List.Sublist.cons_cons _ ?_ | refine List.Sublist.cons _ ?_))))
                  · replace hdup := Bool.eq_false_iff.2 hdup
                    rw [hdup]
                    refine TC.region ?_
                    refine TL.val (Yl.move rfl) rfl ?_
                    refine TL.val (Yl.move rfl) rfl ?_
                    refine TL.yes rfl rfl rfl ?_
                    refine TL.val (Yl.fieldAddr (k := 9) (m := 0) (o := 0) Tryz.underlying35 rfl sz9 rfl rfl) rfl ?_
                    refine TL.yes rfl rfl rfl ?_
                    refine TL.val (Yl.load1 Tryz.underlying9 rfl rfl (by repeat (first | exact Foc.head | apply Foc.tail)) rfl) rfl ?_
                    refine TL.yes rfl rfl rfl ?_
                    refine TL.val (Yl.fieldAddr (k := 9) (m := 0) (o := 0) Tryz.underlying35 rfl sz9 rfl rfl) rfl ?_
                    refine TL.yes rfl rfl rfl ?_
                    refine TL.val (Yl.load1 Tryz.underlying9 rfl rfl (by repeat (first | exact Foc.head | apply Foc.tail)) rfl) rfl ?_
                    refine TL.yes rfl rfl rfl ?_
                    refine TL.val (Yl.eqlS rfl rfl rfl) rfl ?_
                    refine TL.val (Yl.pickF rfl rfl) rfl ?_
                    refine TL.val (Yl.assign rfl) rfl ?_
                    refine TL.next ?_
                    refine TC.region ?_
                    refine TL.val (Yl.add rfl rfl (wI (by omega))) rfl ?_
                    refine TL.val (Yl.move rfl) rfl ?_
                    exact TL.done (Inv.again (i + 1) (by omega) (by omega) ⟨rfl, rfl, rfl, rfl, rfl, rfl, rfl, (by rw [dupN_succ hx, hdup]; rfl), rfl, rfl, rfl, trivial⟩ (fun _ h => h.sub (by repeat (first | exact List.Sublist.refl _ | refine List.Sublist.cons_cons _ ?_ | refine List.Sublist.cons _ ?_))))
                · replace hc93 := of_decide_eq_false hc93
                  refine TC.exit_next rfl ?_
                  refine TC.seq ?_
                  obtain rfl : i = (entL (ws.take k)).length := by omega
                  by_cases hall : dupN (entL (ws.take k)) (entOf w).name (entL (ws.take k)).length = true
                  · rw [hall]
                    refine TC.region ?_
                    refine TL.val (Yl.move rfl) rfl ?_
                    refine TL.val (Yl.not rfl) rfl ?_
                    refine TL.next ?_
                    refine TC.no rfl ?_
                    refine TC.skip_next ?_
                    refine TC.region ?_
                    refine TL.val (Yl.add rfl rfl (wI (by omega))) rfl ?_
                    refine TL.val (Yl.move rfl) rfl ?_
                    exact TL.done (Inv.again (k + 1, v, H1) ⟨by show k + 1 ≤ _; omega, by show SlOf 35 6 (flatT (entL (ws.take (k + 1)))) v H1; rw [entL_snoc hw, entStep, if_pos hall]; exact hv⟩ (show Nat.min n 8 - (k + 1) < Nat.min n 8 - k by omega) ⟨rfl, rfl, rfl, rfl, rfl, trivial⟩ (fun _ h => h.sub (by repeat (first | exact List.Sublist.refl _ | refine List.Sublist.cons_cons _ ?_ | refine List.Sublist.cons _ ?_))))
                  · replace hall := Bool.eq_false_iff.2 hall
                    rw [hall]
                    refine TC.region ?_
                    refine TL.val (Yl.move rfl) rfl ?_
                    refine TL.val (Yl.not rfl) rfl ?_
                    refine TL.next ?_
                    refine TC.yes rfl ?_
                    refine TC.region ?_
                    refine TL.val (Yl.move rfl) rfl ?_
                    refine TL.val (Yl.loadA (vs := (entOf w).v) Tryz.underlying35 rfl sz35 rfl (by repeat (first | exact Foc.head | apply Foc.tail)) rfl) rfl ?_
                    refine TL.eff (Eff.lits [_] (vs := [.agg ⟨(entOf w).v⟩]) (cs := (entOf w).v) Tryz.underlying24 sz35 zr35 rfl ⟨rfl, trivial⟩ rfl (by simp; rfl) (by simp [Value.cells]) rfl) rfl fun b109 => ?_
                    refine TL.eff (Eff.app (sz := 6) (bs := 72) (m := 1) (news := (entOf w).v) (R := [(b14, oC (namesL.map vS) 9), (b, .cells ⟨cs⟩ tE fE)] ++ Fr) Tryz.underlying24 Tryz.underlying24 (.inl ⟨_, rfl⟩) sz35 by35 zr35 rfl rfl rfl hv (fun _ h => Own.mid (A := [(b14, oC (namesL.map vS) 9), (b, .cells ⟨cs⟩ tE fE)]) (h.sub (.cons _ (.cons _ (.refl _))))) (Src.sl .head rfl) rfl (by intro y hy; simp [TE.v] at hy; rcases hy with rfl | rfl | rfl | rfl | rfl | rfl <;> rfl) (by decide) (by decide) (by rw [flatT_length]; show (_ + 6) * 72 ≤ _; omega)) rfl fun p => ?_
                    refine TL.val (Yl.assign rfl) rfl ?_
                    refine TL.next ?_
                    refine TC.region ?_
                    refine TL.val (Yl.add rfl rfl (wI (by omega))) rfl ?_
                    refine TL.val (Yl.move rfl) rfl ?_
                    exact TL.done (Inv.again (k + 1, p.1.1, p.1.2) ⟨by show k + 1 ≤ _; omega, by show SlOf 35 6 (flatT (entL (ws.take (k + 1)))) p.1.1 p.1.2; rw [entL_snoc hw, entStep, hall, if_neg (by decide), flatT_append, flatT_one]; exact p.2⟩ (show Nat.min n 8 - (k + 1) < Nat.min n 8 - k by omega) ⟨rfl, rfl, rfl, rfl, rfl, trivial⟩ (fun _ h => Own.mid (A := p.1.2) (H1 := [(b14, _), (b, _)]) h))
          · refine Up.eff rfl rfl (Eff.lits1 [_] (vs := bV [toU8 (97 + ((shr16 w 8).toNat : Int) % 26)]) Tryz.underlying40 sz5 zr5 rfl ⟨rfl, trivial⟩ rfl rfl rfl) rfl (fun _ => .inr (fun _ h => h.sub (by repeat (first | exact List.Sublist.refl _ | refine List.Sublist.cons_cons _ ?_ | refine List.Sublist.cons _ ?_)))) fun b46 => ?_
            refine TA.two 4 13 (by kernel_rfl) ?_ ?_
            · refine Up.eff rfl rfl (Eff.makeB (i := (shr16 w 7).toNat % 20) (j := (shr16 w 7).toNat % 20) Tryz.underlying40 sz5 by5 zr5 rfl rfl rfl rfl (by omega) (by omega)) rfl (fun _ => .inr (fun _ h => h.sub (by repeat (first | exact List.Sublist.refl _ | refine List.Sublist.cons_cons _ ?_ | refine List.Sublist.cons _ ?_)))) fun b38 => ?_
              refine TA.two 5 13 (by kernel_rfl) ?_ ?_
              · refine Up.val rfl rfl (Yl.strB (m := List.replicate ((shr16 w 7).toNat % 20) 0) Tryz.underlying40 Tryz.underlying5 Tryz.underlying9 rfl (by repeat (first | exact Foc.head | apply Foc.tail)) (by rw [List.drop_zero, List.take_of_length_le (by simp)]) (by simp)) rfl (.inr (fun _ h => h.sub (by repeat (first | exact List.Sublist.refl _ | refine List.Sublist.cons_cons _ ?_ | refine List.Sublist.cons _ ?_)))) ?_
                refine TA.pure 6 rfl (by kernel_rfl) (Yl.addS (b := dataB) rfl rfl (by rw [List.length_replicate]; show _ + 4 ≤ _; omega)) rfl ?_
                refine TA.one 13 (by kernel_rfl) ?_
                refine Up.val rfl rfl (Yl.strB (l := [toU8 (97 + ((shr16 w 8).toNat : Int) % 26)]) (m := [toU8 (97 + ((shr16 w 8).toNat : Int) % 26)]) Tryz.underlying40 Tryz.underlying5 Tryz.underlying9 rfl (by repeat (first | exact Foc.head | apply Foc.tail)) rfl (Nat.le_refl 1)) rfl (.inr (fun _ h => h.sub (by repeat (first | exact List.Sublist.refl _ | refine List.Sublist.cons_cons _ ?_ | refine List.Sublist.cons _ ?_)))) ?_
                refine TA.pure 14 rfl (by kernel_rfl) (Yl.addS rfl rfl (by rw [List.length_append, List.length_replicate]; show _ + 4 + 1 ≤ _; omega)) rfl ?_
                refine TA.pure 15 rfl (by kernel_rfl) (Yl.fieldAddr (k := 9) (m := 2) (o := 2) Tryz.underlying35 rfl sz9 rfl rfl) rfl ?_
                refine TA.one 16 (by kernel_rfl) ?_
                refine Up.skp rfl rfl (Skp.store1 sz9 rfl rfl rfl (by repeat (first | exact Foc.head | apply Foc.tail)) (Nat.le_of_ble_eq_true rfl) rfl) (.inl rfl) ?_
                refine TA.next (by kernel_rfl) ?_
                refine TC.seq ?_
                refine TC.region ?_
                refine TL.val (Yl.assign rfl) rfl ?_
                refine TL.next ?_
                refine TC.seq ?_
                refine TC.seq ?_
                refine TC.region ?_
                refine TL.val (Yl.move rfl) rfl ?_
                refine TL.val (Yl.lenOf hv (flatT_length _) (by omega) Tryz.underlying24 rfl) rfl ?_
                refine TL.val (Yl.move rfl) rfl ?_
                refine TL.next ?_
                refine TC.block ?_
                refine TC.loopI (σ := Nat) (fun i => [(3, sl b14 0 10 10), (19, sl b off (Nat.min n 8) cap), (20, .int .i64 ((Nat.min n 8 : Nat) : Int)), (4, v), (21, .int .i64 (k : Int)), (6, .int .u16 (w.toNat : Int)), (7, pt b7 0), (11, .bool (dupN (entL (ws.take k)) (entOf w).name i)), (90, v), (91, .int .i64 ((entL (ws.take k)).length : Int)), (92, .int .i64 (i : Int))]) (fun i => (b7, oC (entOf w).v 35) :: (b14, oC (namesL.map vS) 9) :: (b, .cells ⟨cs⟩ tE fE) :: (H1 ++ Fr)) (fun i => i ≤ (entL (ws.take k)).length) (fun i => (entL (ws.take k)).length - i) 0 ⟨rfl, rfl, rfl, rfl, rfl, rfl, rfl, rfl, rfl, rfl, rfl, trivial⟩ (fun _ h => by rw [hE]; exact h.sub (by repeat (first | exact List.Sublist.refl _ | refine List.Sublist.cons_cons _ ?_ | refine List.Sublist.cons _ ?_))) (Nat.zero_le _) (fun i hi => ?_)
                refine TC.seq ?_
                refine TC.region ?_
                refine TL.val (Yl.lss rfl rfl rfl) rfl ?_
                refine TL.next ?_
                refine TC.seq ?_
                refine TC.cond rfl (fun hc93 => ?_) (fun hc93 => ?_)
                · replace hc93 := of_decide_eq_true hc93
                  refine TC.skip_next ?_
                  refine TC.seq ?_
                  refine TC.block ?_
                  refine TC.seq ?_
                  obtain ⟨x, hx⟩ : ∃ x, (entL (ws.take k))[i]? = some x := ⟨(entL (ws.take k))[i]'(by omega), List.getElem?_eq_getElem (by omega)⟩
                  obtain ⟨bb, boff, bn, bcap, bcs, rfl, rfl, hb1, hb2, hb3⟩ : ∃ b off n cap cs, v = sl b off n cap ∧ H1 = [(b, oC cs 35)] ∧ n ≤ cap ∧ off + cap * 6 ≤ cs.length ∧ (cs.drop off).take (n * 6) = flatT (entL (ws.take k)) := by
                    rcases hv with ⟨_, he, _⟩ | h
                    · have := congrArg List.length he; rw [flatT_length, List.length_nil] at this; omega
                    · exact h
                  have hb4 : bn = (entL (ws.take k)).length := by
                    have h1 := congrArg List.length hb3
                    rw [flatT_length, List.length_take, List.length_drop] at h1
                    have h2 : bn * 6 ≤ bcap * 6 := Nat.mul_le_mul_right _ hb1
                    omega
                  refine TC.region ?_
                  refine TL.val (Yl.idxAddrS (j := i) (o := boff + i * 6) Tryz.underlying24 sz35 rfl rfl rfl (by omega) rfl) rfl ?_
                  refine TL.val (Yl.loadA (vs := x.v) Tryz.underlying35 rfl sz35 rfl (by repeat (first | exact Foc.head | apply Foc.tail)) (by
                    have := flatT_get _ i x hx
                    rw [← hb3, List.drop_take, List.drop_drop, List.take_take] at this
                    rw [Nat.mul_comm i 6]
                    rw [Nat.min_eq_left (by omega)] at this
                    exact this)) rfl ?_
                  refine TL.eff (Eff.alloc zr35 rfl) rfl fun b13 => ?_
                  refine TL.skp (Skp.storeA (vs := x.v) sz35 rfl rfl rfl (by repeat (first | exact Foc.head | apply Foc.tail)) (Nat.le_of_ble_eq_true rfl) rfl) ?_
                  refine TL.next ?_
                  by_cases hdup : dupN (entL (ws.take k)) (entOf w).name i = true
                  · rw [hdup]
                    refine TC.region ?_
                    refine TL.val (Yl.move rfl) rfl ?_
                    refine TL.val (Yl.move rfl) rfl ?_
                    refine TL.no rfl rfl rfl rfl rfl ?_
                    refine TL.no rfl rfl rfl rfl rfl ?_
                    refine TL.no rfl rfl rfl rfl rfl ?_
                    refine TL.no rfl rfl rfl rfl rfl ?_
                    refine TL.no rfl rfl rfl rfl rfl ?_
                    refine TL.val (Yl.pickT rfl rfl) rfl ?_
                    refine TL.val (Yl.assign rfl) rfl ?_
                    refine TL.next ?_
                    refine TC.region ?_
                    refine TL.val (Yl.add rfl rfl (wI (by omega))) rfl ?_
                    refine TL.val (Yl.move rfl) rfl ?_
                    exact TL.done (Inv.again (i + 1) (by omega) (by omega) ⟨rfl, rfl, rfl, rfl, rfl, rfl, rfl, (by rw [dupN_succ hx, hdup]; rfl), rfl, rfl, rfl, trivial⟩ (fun _ h => h.sub (by repeat (first | exact List.Sublist.refl _ | refine List.Sublist.cons_cons _ ?_ | refine List.Sublist.cons _ ?_))))
                  · replace hdup := Bool.eq_false_iff.2 hdup
                    rw [hdup]
                    refine TC.region ?_
                    refine TL.val (Yl.move rfl) rfl ?_
                    refine TL.val (Yl.move rfl) rfl ?_
                    refine TL.yes rfl rfl rfl ?_
                    refine TL.val (Yl.fieldAddr (k := 9) (m := 0) (o := 0) Tryz.underlying35 rfl sz9 rfl rfl) rfl ?_
                    refine TL.yes rfl rfl rfl ?_
                    refine TL.val (Yl.load1 Tryz.underlying9 rfl rfl (by repeat (first | exact Foc.head | apply Foc.tail)) rfl) rfl ?_
                    refine TL.yes rfl rfl rfl ?_
                    refine TL.val (Yl.fieldAddr (k := 9) (m := 0) (o := 0) Tryz.underlying35 rfl sz9 rfl rfl) rfl ?_
                    refine TL.yes rfl rfl rfl ?_
                    refine TL.val (Yl.load1 Tryz.underlying9 rfl rfl (by repeat (first | exact Foc.head | apply Foc.tail)) rfl) rfl ?_
                    refine TL.yes rfl rfl rfl ?_
                    refine TL.val (Yl.eqlS rfl rfl rfl) rfl ?_
                    refine TL.val (Yl.pickF rfl rfl) rfl ?_
                    refine TL.val (Yl.assign rfl) rfl ?_
                    refine TL.next ?_
                    refine TC.region ?_
                    refine TL.val (Yl.add rfl rfl (wI (by omega))) rfl ?_
                    refine TL.val (Yl.move rfl) rfl ?_
                    exact TL.done (Inv.again (i + 1) (by omega) (by omega) ⟨rfl, rfl, rfl, rfl, rfl, rfl, rfl, (by rw [dupN_succ hx, hdup]; rfl), rfl, rfl, rfl, trivial⟩ (fun _ h => h.sub (by repeat (first | exact List.Sublist.refl _ | refine List.Sublist.cons_cons _ ?_ | refine List.Sublist.cons _ ?_))))
                · replace hc93 := of_decide_eq_false hc93
                  refine TC.exit_next rfl ?_
                  refine TC.seq ?_
                  obtain rfl : i = (entL (ws.take k)).length := by omega
                  by_cases hall : dupN (entL (ws.take k)) (entOf w).name (entL (ws.take k)).length = true
                  · rw [hall]
                    refine TC.region ?_
                    refine TL.val (Yl.move rfl) rfl ?_
                    refine TL.val (Yl.not rfl) rfl ?_
                    refine TL.next ?_
                    refine TC.no rfl ?_
                    refine TC.skip_next ?_
                    refine TC.region ?_
                    refine TL.val (Yl.add rfl rfl (wI (by omega))) rfl ?_
                    refine TL.val (Yl.move rfl) rfl ?_
                    exact TL.done (Inv.again (k + 1, v, H1) ⟨by show k + 1 ≤ _; omega, by show SlOf 35 6 (flatT (entL (ws.take (k + 1)))) v H1; rw [entL_snoc hw, entStep, if_pos hall]; exact hv⟩ (show Nat.min n 8 - (k + 1) < Nat.min n 8 - k by omega) ⟨rfl, rfl, rfl, rfl, rfl, trivial⟩ (fun _ h => h.sub (by repeat (first | exact List.Sublist.refl _ | refine List.Sublist.cons_cons _ ?_ | refine List.Sublist.cons _ ?_))))
                  · replace hall := Bool.eq_false_iff.2 hall
                    rw [hall]
                    refine TC.region ?_
                    refine TL.val (Yl.move rfl) rfl ?_
                    refine TL.val (Yl.not rfl) rfl ?_
                    refine TL.next ?_
                    refine TC.yes rfl ?_
                    refine TC.region ?_
                    refine TL.val (Yl.move rfl) rfl ?_
                    refine TL.val (Yl.loadA (vs := (entOf w).v) Tryz.underlying35 rfl sz35 rfl (by repeat (first | exact Foc.head | apply Foc.tail)) rfl) rfl ?_
                    refine TL.eff (Eff.lits [_] (vs := [.agg ⟨(entOf w).v⟩]) (cs := (entOf w).v) Tryz.underlying24 sz35 zr35 rfl ⟨rfl, trivial⟩ rfl (by simp; rfl) (by simp [Value.cells]) rfl) rfl fun b109 => ?_
                    refine TL.eff (Eff.app (sz := 6) (bs := 72) (m := 1) (news := (entOf w).v) (R := [(b14, oC (namesL.map vS) 9), (b, .cells ⟨cs⟩ tE fE)] ++ Fr) Tryz.underlying24 Tryz.underlying24 (.inl ⟨_, rfl⟩) sz35 by35 zr35 rfl rfl rfl hv (fun _ h => Own.mid (A := [(b14, oC (namesL.map vS) 9), (b, .cells ⟨cs⟩ tE fE)]) (h.sub (.cons _ (.cons _ (.refl _))))) (Src.sl .head rfl) rfl (by intro y hy; simp [TE.v] at hy; rcases hy with rfl | rfl | rfl | rfl | rfl | rfl <;> rfl) (by decide) (by decide) (by rw [flatT_length]; show (_ + 6) * 72 ≤ _; omega)) rfl fun p => ?_
                    refine TL.val (Yl.assign rfl) rfl ?_
                    refine TL.next ?_
                    refine TC.region ?_
                    refine TL.val (Yl.add rfl rfl (wI (by omega))) rfl ?_
                    refine TL.val (Yl.move rfl) rfl ?_
                    exact TL.done (Inv.again (k + 1, p.1.1, p.1.2) ⟨by show k + 1 ≤ _; omega, by show SlOf 35 6 (flatT (entL (ws.take (k + 1)))) p.1.1 p.1.2; rw [entL_snoc hw, entStep, hall, if_neg (by decide), flatT_append, flatT_one]; exact p.2⟩ (show Nat.min n 8 - (k + 1) < Nat.min n 8 - k by omega) ⟨rfl, rfl, rfl, rfl, rfl, trivial⟩ (fun _ h => Own.mid (A := p.1.2) (H1 := [(b14, _), (b, _)]) h))
              · refine Up.val rfl rfl (Yl.strB (l := [toU8 (97 + ((shr16 w 8).toNat : Int) % 26)]) (m := [toU8 (97 + ((shr16 w 8).toNat : Int) % 26)]) Tryz.underlying40 Tryz.underlying5 Tryz.underlying9 rfl (by repeat (first | exact Foc.head | apply Foc.tail)) rfl (Nat.le_refl 1)) rfl (.inr (fun _ h => h.sub (by repeat (first | exact List.Sublist.refl _ | refine List.Sublist.cons_cons _ ?_ | refine List.Sublist.cons _ ?_)))) ?_
                refine TA.one 5 (by kernel_rfl) ?_
                refine Up.val rfl rfl (Yl.strB (m := List.replicate ((shr16 w 7).toNat % 20) 0) Tryz.underlying40 Tryz.underlying5 Tryz.underlying9 rfl (by repeat (first | exact Foc.head | apply Foc.tail)) (by rw [List.drop_zero, List.take_of_length_le (by simp)]) (by simp)) rfl (.inr (fun _ h => h.sub (by repeat (first | exact List.Sublist.refl _ | refine List.Sublist.cons_cons _ ?_ | refine List.Sublist.cons _ ?_)))) ?_
                refine TA.pure 6 rfl (by kernel_rfl) (Yl.addS (b := dataB) rfl rfl (by rw [List.length_replicate]; show _ + 4 ≤ _; omega)) rfl ?_
                refine TA.pure 14 rfl (by kernel_rfl) (Yl.addS rfl rfl (by rw [List.length_append, List.length_replicate]; show _ + 4 + 1 ≤ _; omega)) rfl ?_
                refine TA.pure 15 rfl (by kernel_rfl) (Yl.fieldAddr (k := 9) (m := 2) (o := 2) Tryz.underlying35 rfl sz9 rfl rfl) rfl ?_
                refine TA.one 16 (by kernel_rfl) ?_
                refine Up.skp rfl rfl (Skp.store1 sz9 rfl rfl rfl (by repeat (first | exact Foc.head | apply Foc.tail)) (Nat.le_of_ble_eq_true rfl) rfl) (.inl rfl) ?_
                refine TA.next (by kernel_rfl) ?_
                refine TC.seq ?_
                refine TC.region ?_
                refine TL.val (Yl.assign rfl) rfl ?_
                refine TL.next ?_
                refine TC.seq ?_
                refine TC.seq ?_
                refine TC.region ?_
                refine TL.val (Yl.move rfl) rfl ?_
                refine TL.val (Yl.lenOf hv (flatT_length _) (by omega) Tryz.underlying24 rfl) rfl ?_
                refine TL.val (Yl.move rfl) rfl ?_
                refine TL.next ?_
                refine TC.block ?_
                refine TC.loopI (σ := Nat) (fun i => [(3, sl b14 0 10 10), (19, sl b off (Nat.min n 8) cap), (20, .int .i64 ((Nat.min n 8 : Nat) : Int)), (4, v), (21, .int .i64 (k : Int)), (6, .int .u16 (w.toNat : Int)), (7, pt b7 0), (11, .bool (dupN (entL (ws.take k)) (entOf w).name i)), (90, v), (91, .int .i64 ((entL (ws.take k)).length : Int)), (92, .int .i64 (i : Int))]) (fun i => (b7, oC (entOf w).v 35) :: (b14, oC (namesL.map vS) 9) :: (b, .cells ⟨cs⟩ tE fE) :: (H1 ++ Fr)) (fun i => i ≤ (entL (ws.take k)).length) (fun i => (entL (ws.take k)).length - i) 0 ⟨rfl, rfl, rfl, rfl, rfl, rfl, rfl, rfl, rfl, rfl, rfl, trivial⟩ (fun _ h => by rw [hE]; exact h.sub (by repeat (first | exact List.Sublist.refl _ | refine List.Sublist.cons_cons _ ?_ | refine List.Sublist.cons _ ?_))) (Nat.zero_le _) (fun i hi => ?_)
                refine TC.seq ?_
                refine TC.region ?_
                refine TL.val (Yl.lss rfl rfl rfl) rfl ?_
                refine TL.next ?_
                refine TC.seq ?_
                refine TC.cond rfl (fun hc93 => ?_) (fun hc93 => ?_)
                · replace hc93 := of_decide_eq_true hc93
                  refine TC.skip_next ?_
                  refine TC.seq ?_
                  refine TC.block ?_
                  refine TC.seq ?_
                  obtain ⟨x, hx⟩ : ∃ x, (entL (ws.take k))[i]? = some x := ⟨(entL (ws.take k))[i]'(by omega), List.getElem?_eq_getElem (by omega)⟩
                  obtain ⟨bb, boff, bn, bcap, bcs, rfl, rfl, hb1, hb2, hb3⟩ : ∃ b off n cap cs, v = sl b off n cap ∧ H1 = [(b, oC cs 35)] ∧ n ≤ cap ∧ off + cap * 6 ≤ cs.length ∧ (cs.drop off).take (n * 6) = flatT (entL (ws.take k)) := by
                    rcases hv with ⟨_, he, _⟩ | h
                    · have := congrArg List.length he; rw [flatT_length, List.length_nil] at this; omega
                    · exact h
                  have hb4 : bn = (entL (ws.take k)).length := by
                    have h1 := congrArg List.length hb3
                    rw [flatT_length, List.length_take, List.length_drop] at h1
                    have h2 : bn * 6 ≤ bcap * 6 := Nat.mul_le_mul_right _ hb1
                    omega
                  refine TC.region ?_
                  refine TL.val (Yl.idxAddrS (j := i) (o := boff + i * 6) Tryz.underlying24 sz35 rfl rfl rfl (by omega) rfl) rfl ?_
                  refine TL.val (Yl.loadA (vs := x.v) Tryz.underlying35 rfl sz35 rfl (by repeat (first | exact Foc.head | apply Foc.tail)) (by
                    have := flatT_get _ i x hx
                    rw [← hb3, List.drop_take, List.drop_drop, List.take_take] at this
                    rw [Nat.mul_comm i 6]
                    rw [Nat.min_eq_left (by omega)] at this
                    exact this)) rfl ?_
                  refine TL.eff (Eff.alloc zr35 rfl) rfl fun b13 => ?_
                  refine TL.skp (Skp.storeA (vs := x.v) sz35 rfl rfl rfl (by repeat (first | exact Foc.head | apply Foc.tail)) (Nat.le_of_ble_eq_true rfl) rfl) ?_
                  refine TL.next ?_
                  by_cases hdup : dupN (entL (ws.take k)) (entOf w).name i = true
                  · rw [hdup]
                    refine TC.region ?_
                    refine TL.val (Yl.move rfl) rfl ?_
                    refine TL.val (Yl.move rfl) rfl ?_
                    refine TL.no rfl rfl rfl rfl rfl ?_
                    refine TL.no rfl rfl rfl rfl rfl ?_
                    refine TL.no rfl rfl rfl rfl rfl ?_
                    refine TL.no rfl rfl rfl rfl rfl ?_
                    refine TL.no rfl rfl rfl rfl rfl ?_
                    refine TL.val (Yl.pickT rfl rfl) rfl ?_
                    refine TL.val (Yl.assign rfl) rfl ?_
                    refine TL.next ?_
                    refine TC.region ?_
                    refine TL.val (Yl.add rfl rfl (wI (by omega))) rfl ?_
                    refine TL.val (Yl.move rfl) rfl ?_
                    exact TL.done (Inv.again (i + 1) (by omega) (by omega) ⟨rfl, rfl, rfl, rfl, rfl, rfl, rfl, (by rw [dupN_succ hx, hdup]; rfl), rfl, rfl, rfl, trivial⟩ (fun _ h => h.sub (by repeat (first | exact List.Sublist.refl _ | refine List.Sublist.cons_cons _ ?_ | refine List.Sublist.cons _ ?_))))
                  · replace hdup := Bool.eq_false_iff.2 hdup
                    rw [hdup]
                    refine TC.region ?_
                    refine TL.val (Yl.move rfl) rfl ?_
                    refine TL.val (Yl.move rfl) rfl ?_
                    refine TL.yes rfl rfl rfl ?_
                    refine TL.val (Yl.fieldAddr (k := 9) (m := 0) (o := 0) Tryz.underlying35 rfl sz9 rfl rfl) rfl ?_
                    refine TL.yes rfl rfl rfl ?_
                    refine TL.val (Yl.load1 Tryz.underlying9 rfl rfl (by repeat (first | exact Foc.head | apply Foc.tail)) rfl) rfl ?_
                    refine TL.yes rfl rfl rfl ?_
                    refine TL.val (Yl.fieldAddr (k := 9) (m := 0) (o := 0) Tryz.underlying35 rfl sz9 rfl rfl) rfl ?_
                    refine TL.yes rfl rfl rfl ?_
                    refine TL.val (Yl.load1 Tryz.underlying9 rfl rfl (by repeat (first | exact Foc.head | apply Foc.tail)) rfl) rfl ?_
                    refine TL.yes rfl rfl rfl ?_
                    refine TL.val (Yl.eqlS rfl rfl rfl) rfl ?_
                    refine TL.val (Yl.pickF rfl rfl) rfl ?_
                    refine TL.val (Yl.assign rfl) rfl ?_
                    refine TL.next ?_
                    refine TC.region ?_
                    refine TL.val (Yl.add rfl rfl (wI (by omega))) rfl ?_
                    refine TL.val (Yl.move rfl) rfl ?_
                    exact TL.done (Inv.again (i + 1) (by omega) (by omega) ⟨rfl, rfl, rfl, rfl, rfl, rfl, rfl, (by rw [dupN_succ hx, hdup]; rfl), rfl, rfl, rfl, trivial⟩ (fun _ h => h.sub (by repeat (first | exact List.Sublist.refl _ | refine List.Sublist.cons_cons _ ?_ | refine List.Sublist.cons _ ?_))))
                · replace hc93 := of_decide_eq_false hc93
                  refine TC.exit_next rfl ?_
                  refine TC.seq ?_
                  obtain rfl : i = (entL (ws.take k)).length := by omega
                  by_cases hall : dupN (entL (ws.take k)) (entOf w).name (entL (ws.take k)).length = true
                  · rw [hall]
                    refine TC.region ?_
                    refine TL.val (Yl.move rfl) rfl ?_
                    refine TL.val (Yl.not rfl) rfl ?_
                    refine TL.next ?_
                    refine TC.no rfl ?_
                    refine TC.skip_next ?_
                    refine TC.region ?_
                    refine TL.val (Yl.add rfl rfl (wI (by omega))) rfl ?_
                    refine TL.val (Yl.move rfl) rfl ?_
                    exact TL.done (Inv.again (k + 1, v, H1) ⟨by show k + 1 ≤ _; omega, by show SlOf 35 6 (flatT (entL (ws.take (k + 1)))) v H1; rw [entL_snoc hw, entStep, if_pos hall]; exact hv⟩ (show Nat.min n 8 - (k + 1) < Nat.min n 8 - k by omega) ⟨rfl, rfl, rfl, rfl, rfl, trivial⟩ (fun _ h => h.sub (by repeat (first | exact List.Sublist.refl _ | refine List.Sublist.cons_cons _ ?_ | refine List.Sublist.cons _ ?_))))
                  · replace hall := Bool.eq_false_iff.2 hall
                    rw [hall]
                    refine TC.region ?_
                    refine TL.val (Yl.move rfl) rfl ?_
                    refine TL.val (Yl.not rfl) rfl ?_
                    refine TL.next ?_
                    refine TC.yes rfl ?_
                    refine TC.region ?_
                    refine TL.val (Yl.move rfl) rfl ?_
                    refine TL.val (Yl.loadA (vs := (entOf w).v) Tryz.underlying35 rfl sz35 rfl (by repeat (first | exact Foc.head | apply Foc.tail)) rfl) rfl ?_
                    refine TL.eff (Eff.lits [_] (vs := [.agg ⟨(entOf w).v⟩]) (cs := (entOf w).v) Tryz.underlying24 sz35 zr35 rfl ⟨rfl, trivial⟩ rfl (by simp; rfl) (by simp [Value.cells]) rfl) rfl fun b109 => ?_
                    refine TL.eff (Eff.app (sz := 6) (bs := 72) (m := 1) (news := (entOf w).v) (R := [(b14, oC (namesL.map vS) 9), (b, .cells ⟨cs⟩ tE fE)] ++ Fr) Tryz.underlying24 Tryz.underlying24 (.inl ⟨_, rfl⟩) sz35 by35 zr35 rfl rfl rfl hv (fun _ h => Own.mid (A := [(b14, oC (namesL.map vS) 9), (b, .cells ⟨cs⟩ tE fE)]) (h.sub (.cons _ (.cons _ (.refl _))))) (Src.sl .head rfl) rfl (by intro y hy; simp [TE.v] at hy; rcases hy with rfl | rfl | rfl | rfl | rfl | rfl <;> rfl) (by decide) (by decide) (by rw [flatT_length]; show (_ + 6) * 72 ≤ _; omega)) rfl fun p => ?_
                    refine TL.val (Yl.assign rfl) rfl ?_
                    refine TL.next ?_
                    refine TC.region ?_
                    refine TL.val (Yl.add rfl rfl (wI (by omega))) rfl ?_
                    refine TL.val (Yl.move rfl) rfl ?_
                    exact TL.done (Inv.again (k + 1, p.1.1, p.1.2) ⟨by show k + 1 ≤ _; omega, by show SlOf 35 6 (flatT (entL (ws.take (k + 1)))) p.1.1 p.1.2; rw [entL_snoc hw, entStep, hall, if_neg (by decide), flatT_append, flatT_one]; exact p.2⟩ (show Nat.min n 8 - (k + 1) < Nat.min n 8 - k by omega) ⟨rfl, rfl, rfl, rfl, rfl, trivial⟩ (fun _ h => Own.mid (A := p.1.2) (H1 := [(b14, _), (b, _)]) h))
            · refine Up.val rfl rfl (Yl.strB (l := [toU8 (97 + ((shr16 w 8).toNat : Int) % 26)]) (m := [toU8 (97 + ((shr16 w 8).toNat : Int) % 26)]) Tryz.underlying40 Tryz.underlying5 Tryz.underlying9 rfl (by repeat (first | exact Foc.head | apply Foc.tail)) rfl (Nat.le_refl 1)) rfl (.inr (fun _ h => h.sub (by repeat (first | exact List.Sublist.refl _ | refine List.Sublist.cons_cons _ ?_ | refine List.Sublist.cons _ ?_)))) ?_
              refine TA.one 4 (by kernel_rfl) ?_
              refine Up.eff rfl rfl (Eff.makeB (i := (shr16 w 7).toNat % 20) (j := (shr16 w 7).toNat % 20) Tryz.underlying40 sz5 by5 zr5 rfl rfl rfl rfl (by omega) (by omega)) rfl (fun _ => .inr (fun _ h => h.sub (by repeat (first | exact List.Sublist.refl _ | refine List.Sublist.cons_cons _ ?_ | refine List.Sublist.cons _ ?_)))) fun b38 => ?_
              refine TA.one 5 (by kernel_rfl) ?_
              refine Up.val rfl rfl (Yl.strB (m := List.replicate ((shr16 w 7).toNat % 20) 0) Tryz.underlying40 Tryz.underlying5 Tryz.underlying9 rfl (by repeat (first | exact Foc.head | apply Foc.tail)) (by rw [List.drop_zero, List.take_of_length_le (by simp)]) (by simp)) rfl (.inr (fun _ h => h.sub (by repeat (first | exact List.Sublist.refl _ | refine List.Sublist.cons_cons _ ?_ | refine List.Sublist.cons _ ?_)))) ?_
              refine TA.pure 6 rfl (by kernel_rfl) (Yl.addS (b := dataB) rfl rfl (by rw [List.length_replicate]; show _ + 4 ≤ _; omega)) rfl ?_
              refine TA.pure 14 rfl (by kernel_rfl) (Yl.addS rfl rfl (by rw [List.length_append, List.length_replicate]; show _ + 4 + 1 ≤ _; omega)) rfl ?_
              refine TA.pure 15 rfl (by kernel_rfl) (Yl.fieldAddr (k := 9) (m := 2) (o := 2) Tryz.underlying35 rfl sz9 rfl rfl) rfl ?_
              refine TA.one 16 (by kernel_rfl) ?_
              refine Up.skp rfl rfl (Skp.store1 sz9 rfl rfl rfl (by repeat (first | exact Foc.head | apply Foc.tail)) (Nat.le_of_ble_eq_true rfl) rfl) (.inl rfl) ?_
              refine TA.next (by kernel_rfl) ?_
              refine TC.seq ?_
              refine TC.region ?_
              refine TL.val (Yl.assign rfl) rfl ?_
              refine TL.next ?_
              refine TC.seq ?_
              refine TC.seq ?_
              refine TC.region ?_
              refine TL.val (Yl.move rfl) rfl ?_
              refine TL.val (Yl.lenOf hv (flatT_length _) (by omega) Tryz.underlying24 rfl) rfl ?_
              refine TL.val (Yl.move rfl) rfl ?_
              refine TL.next ?_
              refine TC.block ?_
              refine TC.loopI (σ := Nat) (fun i => [(3, sl b14 0 10 10), (19, sl b off (Nat.min n 8) cap), (20, .int .i64 ((Nat.min n 8 : Nat) : Int)), (4, v), (21, .int .i64 (k : Int)), (6, .int .u16 (w.toNat : Int)), (7, pt b7 0), (11, .bool (dupN (entL (ws.take k)) (entOf w).name i)), (90, v), (91, .int .i64 ((entL (ws.take k)).length : Int)), (92, .int .i64 (i : Int))]) (fun i => (b7, oC (entOf w).v 35) :: (b14, oC (namesL.map vS) 9) :: (b, .cells ⟨cs⟩ tE fE) :: (H1 ++ Fr)) (fun i => i ≤ (entL (ws.take k)).length) (fun i => (entL (ws.take k)).length - i) 0 ⟨rfl, rfl, rfl, rfl, rfl, rfl, rfl, rfl, rfl, rfl, rfl, trivial⟩ (fun _ h => by rw [hE]; exact h.sub (by repeat (first | exact List.Sublist.refl _ | refine List.Sublist.cons_cons _ ?_ | refine List.Sublist.cons _ ?_))) (Nat.zero_le _) (fun i hi => ?_)
              refine TC.seq ?_
              refine TC.region ?_
              refine TL.val (Yl.lss rfl rfl rfl) rfl ?_
              refine TL.next ?_
              refine TC.seq ?_
              refine TC.cond rfl (fun hc93 => ?_) (fun hc93 => ?_)
              · replace hc93 := of_decide_eq_true hc93
                refine TC.skip_next ?_
                refine TC.seq ?_
                refine TC.block ?_
                refine TC.seq ?_
                obtain ⟨x, hx⟩ : ∃ x, (entL (ws.take k))[i]? = some x := ⟨(entL (ws.take k))[i]'(by omega), List.getElem?_eq_getElem (by omega)⟩
                obtain ⟨bb, boff, bn, bcap, bcs, rfl, rfl, hb1, hb2, hb3⟩ : ∃ b off n cap cs, v = sl b off n cap ∧ H1 = [(b, oC cs 35)] ∧ n ≤ cap ∧ off + cap * 6 ≤ cs.length ∧ (cs.drop off).take (n * 6) = flatT (entL (ws.take k)) := by
                  rcases hv with ⟨_, he, _⟩ | h
                  · have := congrArg List.length he; rw [flatT_length, List.length_nil] at this; omega
                  · exact h
                have hb4 : bn = (entL (ws.take k)).length := by
                  have h1 := congrArg List.length hb3
                  rw [flatT_length, List.length_take, List.length_drop] at h1
                  have h2 : bn * 6 ≤ bcap * 6 := Nat.mul_le_mul_right _ hb1
                  omega
                refine TC.region ?_
                refine TL.val (Yl.idxAddrS (j := i) (o := boff + i * 6) Tryz.underlying24 sz35 rfl rfl rfl (by omega) rfl) rfl ?_
                refine TL.val (Yl.loadA (vs := x.v) Tryz.underlying35 rfl sz35 rfl (by repeat (first | exact Foc.head | apply Foc.tail)) (by
                  have := flatT_get _ i x hx
                  rw [← hb3, List.drop_take, List.drop_drop, List.take_take] at this
                  rw [Nat.mul_comm i 6]
                  rw [Nat.min_eq_left (by omega)] at this
                  exact this)) rfl ?_
                refine TL.eff (Eff.alloc zr35 rfl) rfl fun b13 => ?_
                refine TL.skp (Skp.storeA (vs := x.v) sz35 rfl rfl rfl (by repeat (first | exact Foc.head | apply Foc.tail)) (Nat.le_of_ble_eq_true rfl) rfl) ?_
                refine TL.next ?_
                by_cases hdup : dupN (entL (ws.take k)) (entOf w).name i = true
                · rw [hdup]
                  refine TC.region ?_
                  refine TL.val (Yl.move rfl) rfl ?_
                  refine TL.val (Yl.move rfl) rfl ?_
                  refine TL.no rfl rfl rfl rfl rfl ?_
                  refine TL.no rfl rfl rfl rfl rfl ?_
                  refine TL.no rfl rfl rfl rfl rfl ?_
                  refine TL.no rfl rfl rfl rfl rfl ?_
                  refine TL.no rfl rfl rfl rfl rfl ?_
                  refine TL.val (Yl.pickT rfl rfl) rfl ?_
                  refine TL.val (Yl.assign rfl) rfl ?_
                  refine TL.next ?_
                  refine TC.region ?_
                  refine TL.val (Yl.add rfl rfl (wI (by omega))) rfl ?_
                  refine TL.val (Yl.move rfl) rfl ?_
                  exact TL.done (Inv.again (i + 1) (by omega) (by omega) ⟨rfl, rfl, rfl, rfl, rfl, rfl, rfl, (by rw [dupN_succ hx, hdup]; rfl), rfl, rfl, rfl, trivial⟩ (fun _ h => h.sub (by repeat (first | exact List.Sublist.refl _ | refine List.Sublist.cons_cons _ ?_ | refine List.Sublist.cons _ ?_))))
                · replace hdup := Bool.eq_false_iff.2 hdup
                  rw [hdup]
                  refine TC.region ?_
                  refine TL.val (Yl.move rfl) rfl ?_
                  refine TL.val (Yl.move rfl) rfl ?_
                  refine TL.yes rfl rfl rfl ?_
                  refine TL.val (Yl.fieldAddr (k := 9) (m := 0) (o := 0) Tryz.underlying35 rfl sz9 rfl rfl) rfl ?_
                  refine TL.yes rfl rfl rfl ?_
                  refine TL.val (Yl.load1 Tryz.underlying9 rfl rfl (by repeat (first | exact Foc.head | apply Foc.tail)) rfl) rfl ?_
                  refine TL.yes rfl rfl rfl ?_
                  refine TL.val (Yl.fieldAddr (k := 9) (m := 0) (o := 0) Tryz.underlying35 rfl sz9 rfl rfl) rfl ?_
                  refine TL.yes rfl rfl rfl ?_
                  refine TL.val (Yl.load1 Tryz.underlying9 rfl rfl (by repeat (first | exact Foc.head | apply Foc.tail)) rfl) rfl ?_
                  refine TL.yes rfl rfl rfl ?_
                  refine TL.val (Yl.eqlS rfl rfl rfl) rfl ?_
                  refine TL.val (Yl.pickF rfl rfl) rfl ?_
                  refine TL.val (Yl.assign rfl) rfl ?_
                  refine TL.next ?_
                  refine TC.region ?_
                  refine TL.val (Yl.add rfl rfl (wI (by omega))) rfl ?_
                  refine TL.val (Yl.move rfl) rfl ?_
                  exact TL.done (Inv.again (i + 1) (by omega) (by omega) ⟨rfl, rfl, rfl, rfl, rfl, rfl, rfl, (by rw [dupN_succ hx, hdup]; rfl), rfl, rfl, rfl, trivial⟩ (fun _ h => h.sub (by repeat (first | exact List.Sublist.refl _ | refine List.Sublist.cons_cons _ ?_ | refine List.Sublist.cons _ ?_))))
              · replace hc93 := of_decide_eq_false hc93
                refine TC.exit_next rfl ?_
                refine TC.seq ?_
                obtain rfl : i = (entL (ws.take k)).length := by omega
                by_cases hall : dupN (entL (ws.take k)) (entOf w).name (entL (ws.take k)).length = true
                · rw [hall]
                  refine TC.region ?_
                  refine TL.val (Yl.move rfl) rfl ?_
                  refine TL.val (Yl.not rfl) rfl ?_
                  refine TL.next ?_
                  refine TC.no rfl ?_
                  refine TC.skip_next ?_
                  refine TC.region ?_
                  refine TL.val (Yl.add rfl rfl (wI (by omega))) rfl ?_
                  refine TL.val (Yl.move rfl) rfl ?_
                  exact TL.done (Inv.again (k + 1, v, H1) ⟨by show k + 1 ≤ _; omega, by show SlOf 35 6 (flatT (entL (ws.take (k + 1)))) v H1; rw [entL_snoc hw, entStep, if_pos hall]; exact hv⟩ (show Nat.min n 8 - (k + 1) < Nat.min n 8 - k by omega) ⟨rfl, rfl, rfl, rfl, rfl, trivial⟩ (fun _ h => h.sub (by repeat (first | exact List.Sublist.refl _ | refine List.Sublist.cons_cons _ ?_ | refine List.Sublist.cons _ ?_))))
                · replace hall := Bool.eq_false_iff.2 hall
                  rw [hall]
                  refine TC.region ?_
                  refine TL.val (Yl.move rfl) rfl ?_
                  refine TL.val (Yl.not rfl) rfl ?_
                  refine TL.next ?_
                  refine TC.yes rfl ?_
                  refine TC.region ?_
                  refine TL.val (Yl.move rfl) rfl ?_
                  refine TL.val (Yl.loadA (vs := (entOf w).v) Tryz.underlying35 rfl sz35 rfl (by repeat (first | exact Foc.head | apply Foc.tail)) rfl) rfl ?_
                  refine TL.eff (Eff.lits [_] (vs := [.agg ⟨(entOf w).v⟩]) (cs := (entOf w).v) Tryz.underlying24 sz35 zr35 rfl ⟨rfl, trivial⟩ rfl (by simp; rfl) (by simp [Value.cells]) rfl) rfl fun b109 => ?_
                  refine TL.eff (Eff.app (sz := 6) (bs := 72) (m := 1) (news := (entOf w).v) (R := [(b14, oC (namesL.map vS) 9), (b, .cells ⟨cs⟩ tE fE)] ++ Fr) Tryz.underlying24 Tryz.underlying24 (.inl ⟨_, rfl⟩) sz35 by35 zr35 rfl rfl rfl hv (fun _ h => Own.mid (A := [(b14, oC (namesL.map vS) 9), (b, .cells ⟨cs⟩ tE fE)]) (h.sub (.cons _ (.cons _ (.refl _))))) (Src.sl .head rfl) rfl (by intro y hy; simp [TE.v] at hy; rcases hy with rfl | rfl | rfl | rfl | rfl | rfl <;> rfl) (by decide) (by decide) (by rw [flatT_length]; show (_ + 6) * 72 ≤ _; omega)) rfl fun p => ?_
                  refine TL.val (Yl.assign rfl) rfl ?_
                  refine TL.next ?_
                  refine TC.region ?_
                  refine TL.val (Yl.add rfl rfl (wI (by omega))) rfl ?_
                  refine TL.val (Yl.move rfl) rfl ?_
                  exact TL.done (Inv.again (k + 1, p.1.1, p.1.2) ⟨by show k + 1 ≤ _; omega, by show SlOf 35 6 (flatT (entL (ws.take (k + 1)))) p.1.1 p.1.2; rw [entL_snoc hw, entStep, hall, if_neg (by decide), flatT_append, flatT_one]; exact p.2⟩ (show Nat.min n 8 - (k + 1) < Nat.min n 8 - k by omega) ⟨rfl, rfl, rfl, rfl, rfl, trivial⟩ (fun _ h => Own.mid (A := p.1.2) (H1 := [(b14, _), (b, _)]) h))
  · replace hc22 := of_decide_eq_false hc22
    refine TC.exit_next rfl ?_
    refine TC.seq ?_
    obtain rfl : k = Nat.min n 8 := by omega
    refine TC.region ?_
    refine TL.val (Yl.move rfl) rfl ?_
    refine TL.val (Yl.assign rfl) rfl ?_
    refine TL.next ?_
    exact TC.back1 ⟨(v, H1), hv⟩ rfl rfl (fun _ h => (Own.mid (A := [(b14, _), (b, _)]) h).sub (List.Sublist.append (.refl _) (.cons _ (.refl _))))
end Go.Proofs.YtlhncphipfkkjaaGreatDoor

/- The streaming hash: its state, its tables, its digits. -/
namespace Go.Proofs.YtlhncphipfkkjaaGreatDoor
open Go

def k5A : List Nat := [4794697086780616226, 8158064640168781261, 13096744586834688815, 16840607885511220156, 4131703408338449720, 6480981068601479193, 10538285296894168987, 12329834152419229976, 15566598209576043074, 1334009975649890238, 2608012711638119052, 6128411473006802146, 8268148722764581231, 9286055187155687089, 11230858885718282805, 13951009754708518548, 16472876342353939154, 17275323862435702243, 1135362057144423861, 2597628984639134821, 3308224258029322869, 5365058923640841347, 6679025012923562964, 8573033837759648693, 10970295158949994411, 12119686244451234320, 12683024718118986047, 13788192230050041572, 14330467153632333762, 15395433587784984357, 489312712824947311, 1452737877330783856, 2861767655752347644, 3322285676063803686, 5560940570517711597, 5996557281743188959, 7280758554555802590, 8532644243296465576, 9350256976987008742, 10552545826968843579]
def k5B : List Nat := [11727347734174303076, 12113106623233404929, 14000437183269869457, 14369950271660146224, 15101387698204529176, 15463397548674623760, 17586052441742319658, 1182934255886127544, 1847814050463011016, 2177327727835720531, 2830643537854262169, 3796741975233480872, 4115178125766777443, 5681478168544905931, 6601373596472566643, 7507060721942968483, 8399075790359081724, 8693463985226723168, 9568029438360202098, 10144078919501101548, 10430055236837252648, 11840083180663258601, 13761210420658862357, 14299343276471374635, 14566680578165727644, 15097957966210449927, 16922976911328602910, 17689382322260857208, 500013540394364858, 748580250866718886, 1242879168328830382, 1977374033974150939, 2944078676154940804, 3659926193048069267, 4368137639120453308, 4836135668995329356, 5532061633213252278, 6448918945643986474, 6902733635092675308, 7801388544844847127]
def u64V (n : Nat) : Value := .int .u64 (n : Int)
def k5 (i : Nat) : Nat := (k5A ++ k5B).getD i 0
theorem k5A_get {i : Nat} (h : i < 40) : (k5A.map u64V)[i]? = some (.int .u64 (k5 i : Int)) := by
  have h1 : i < k5A.length := h
  have h2 : k5 i = k5A[i] := by
    unfold k5; rw [List.getD_eq_getElem?_getD, List.getElem?_append_left h1, List.getElem?_eq_getElem h1]; rfl
  rw [List.getElem?_map, List.getElem?_eq_getElem h1, h2]; rfl
theorem k5B_get {i : Nat} (h : ¬ i < 40) (h2 : i < 80) : (k5B.map u64V)[i - 40]? = some (.int .u64 (k5 i : Int)) := by
  have h1 : i - 40 < k5B.length := by show i - 40 < 40; omega
  have h3 : k5 i = k5B[i - 40] := by
    unfold k5; rw [List.getD_eq_getElem?_getD, List.getElem?_append_right (by show 40 ≤ i; omega), show i - k5A.length = i - 40 from rfl, List.getElem?_eq_getElem h1]; rfl
  rw [List.getElem?_map, List.getElem?_eq_getElem h1, h3]; rfl
theorem k5_top {i : Nat} (h : i < 64) : toU32 ((k5 i : Int) / 2 ^ 32) = kTab.getD i 0 := by
  have : ∀ i, i < 64 → toU32 ((k5 i : Int) / 2 ^ 32) = kTab.getD i 0 := by decide +kernel
  exact this i h

theorem shaN_app {h : V8} {l m : List UInt8} {n : Nat} (hn : 64 * n ≤ l.length) : shaN h (l ++ m) n = shaN h l n := by
  induction n with
  | zero => rfl
  | succ n ih =>
    rw [shaN, shaN, ih (by omega)]
    congr 1
    unfold blk
    rw [List.take_append_of_le_length (by omega)]
def rest (l : List UInt8) : List UInt8 := l.drop (l.length / 64 * 64)
def shaS (l : List UInt8) : V8 := shaN iv l (l.length / 64)
def shaO (V : V8) (v : Value) (n : Nat) : List Value := v8C V ++ [v, .int .u64 (n : Int)]
theorem wU64 {n : Int} (h : 0 ≤ n ∧ n < 18446744073709551616) : IntKind.u64.wrap n = n := by rw [wrap_u64]; omega
/-- one word, its highest byte first -/
def be4 (x : UInt32) : List UInt8 := [(shr32 x 24).toUInt8, (shr32 x 16).toUInt8, (shr32 x 8).toUInt8, x.toUInt8]
def digL (l : List UInt32) : Nat → List UInt8
  | 0 => []
  | n + 1 => digL l n ++ be4 (l.getD n 0)
theorem digL_length (l : List UInt32) (n : Nat) : (digL l n).length = 4 * n := by induction n with
  | zero => rfl
  | succ n ih => simp only [digL, List.length_append, ih, be4, List.length_cons, List.length_nil]; omega
def dig (l : List UInt8) : List UInt8 := digL (sumV l).list 8
theorem dig_length (l : List UInt8) : (dig l).length = 32 := digL_length _ 8
def hexB : List UInt8 → List UInt8
  | [] => []
  | b :: r => hexDig (b.toNat / 16) :: hexDig (b.toNat % 16) :: hexB r
theorem hexB_app (a b : List UInt8) : hexB (a ++ b) = hexB a ++ hexB b := by
  induction a with
  | nil => rfl
  | cons x a ih => simp only [List.cons_append, hexB, ih]
theorem hexB_length (a : List UInt8) : (hexB a).length = 2 * a.length := by
  induction a with
  | nil => rfl
  | cons x a ih => simp only [hexB, List.length_cons, ih]; omega
theorem hexB_be4 (x : UInt32) : hexB (be4 x) = hex8 x := by
  have hx := x.toNat_lt
  have e1 : ∀ k, (shr32 x k).toNat = x.toNat / 2 ^ k := fun k => by
    show (x.toBitVec >>> k).toNat = _
    rw [BitVec.toNat_ushiftRight, Nat.shiftRight_eq_div_pow]; rfl
  have e2 : ∀ y : UInt32, y.toUInt8.toNat = y.toNat % 256 := fun y => by simp
  have e3 : (x &&& 65535).toNat = x.toNat % 65536 := by
    rw [UInt32.toNat_and]; exact Nat.and_two_pow_sub_one_eq_mod x.toNat 16
  simp only [be4, hexB, hex8, hex4, e1, e2, e3, List.cons_append, List.nil_append]
  repeat' (first | rfl | omega | (refine congr (congrArg List.cons (congrArg hexDig ?_)) ?_))
theorem hexB_dig (l : List UInt32) (n : Nat) : hexB (digL l n) = hexL l n := by
  induction n with
  | zero => rfl
  | succ n ih => rw [digL, hexL, hexB_app, ih, hexB_be4]
theorem hexB_sum (l : List UInt8) : hexB (dig l) = sumH l := hexB_dig _ 8
theorem hexB_snoc {l : List UInt8} {k : Nat} {c : UInt8} (h : l[k]? = some c) : hexB (l.take (k + 1)) = hexB (l.take k) ++ [hexDig (c.toNat / 16), hexDig (c.toNat % 16)] := by
  obtain ⟨hlt, rfl⟩ := List.getElem?_eq_some_iff.1 h
  rw [List.take_succ_eq_append_getElem hlt, hexB_app]; rfl
/-- what is held, sliced at both ends -/
theorem adv_off {off c l : Nat} (h : l ≤ c) : adv off c l 1 = off + l ∨ (adv off c l 1 = off ∧ c = l) := by
  unfold adv; split
  · right; exact ⟨rfl, by assumption⟩
  · left; omega
end Go.Proofs.YtlhncphipfkkjaaGreatDoor
namespace Go.Proofs.YtlhncphipfkkjaaGreatDoor
open Go
theorem Foc.right {A H : HL} {b : Nat} {o : Obj} {K : Obj → HL} (h : Foc H b o K) : Foc (A ++ H) b o (fun o' => A ++ K o') := by
  induction A with
  | nil => exact h
  | cons p A ih => exact Foc.tail ih
theorem Src.mono {P : Program} {g : World} {H H' : HL} {sz m : Nat} {x : Value} {news : List Value} (hH : ∀ w, Own g w H → Own g w H') (h : Src P g H' sz m x news) : Src P g H sz m x news :=
  ⟨h.1, fun w ho => h.2 w (hH w ho)⟩
theorem SlB.src {P : Program} {g : World} {H : HL} {te : TypeId} {xs : List UInt8} {v : Value} {H1 R : HL} (h : SlB te xs v H1) (hH : ∀ w, Own g w H → Own g w (H1 ++ R)) : Src P g H 1 xs.length v (bV xs) := by
  rcases h with ⟨rfl, rfl, rfl⟩ | ⟨b, off, cap, l, rfl, rfl, h1, h2, h3⟩
  · exact Src.mono hH Src.nil
  · exact Src.mono hH (Src.slB Foc.head h3)
end Go.Proofs.YtlhncphipfkkjaaGreatDoor
namespace Go.Proofs.YtlhncphipfkkjaaGreatDoor
open Go
theorem SlB.one {te : TypeId} {xs : List UInt8} {v : Value} {H1 : HL} (h : SlB te xs v H1) : v.oneCell' = true := by
  rcases h with ⟨rfl, _, _⟩ | ⟨b, off, cap, l, rfl, _⟩ <;> rfl
end Go.Proofs.YtlhncphipfkkjaaGreatDoor

namespace Go.Proofs.YtlhncphipfkkjaaGreatDoor
open Go
theorem right_q (x : UInt32) (k : Nat) (hk : k ≤ 32) : Quiet Tryz.prog 181 #[.int .u32 x.toNat, .int .u64 (k : Int)] [] (.int .u32 (rotr x k).toNat) := by
  refine Quiet.of_gives fun g Fr => ?_
  refine Gives.enter Tryz.func181 rfl Tryz.ntmps181 rfl ?_
  refine TC.seq ?_
  refine TC.region ?_
  refine TL.val (Yl.assign rfl) rfl ?_
  refine TL.next ?_
  refine TC.seq ?_
  refine TC.region ?_
  refine TL.val (Yl.move rfl) rfl ?_
  refine TL.val (Yl.move rfl) rfl ?_
  refine TL.val (Yl.shr32 (c := k) rfl rfl) rfl ?_
  refine TL.val (Yl.move rfl) rfl ?_
  refine TL.val (Yl.move rfl) rfl ?_
  refine TL.val (Yl.sub rfl rfl ((wU64 (by omega)).trans (by omega : (32 : Int) - k = ((32 - k : Nat) : Int)))) rfl ?_
  refine TL.val (Yl.shl32 rfl rfl) rfl ?_
  refine TL.val (Yl.or32  rfl rfl) rfl ?_
  refine TL.val (Yl.assign rfl) rfl ?_
  refine TL.next ?_
  exact TC.back1 () rfl rfl (fun _ h => h.sub (by repeat (first | exact List.Sublist.refl _ | refine List.Sublist.cons_cons _ ?_ | refine List.Sublist.cons _ ?_)))
set_option maxRecDepth 10000 in
theorem k512_q (i : Nat) (hi : i < 80) : Quiet Tryz.prog 183 #[.int .i64 (i : Int)] [] (.int .u64 (k5 i : Int)) := by
  refine Quiet.of_gives fun g Fr => ?_
  refine Gives.enter Tryz.func183 rfl Tryz.ntmps183 rfl ?_
  refine TC.seq ?_
  refine TC.region ?_
  refine TL.val (Yl.assign rfl) rfl ?_
  refine TL.next ?_
  refine TC.seq ?_
  refine TC.seq ?_
  refine TC.region ?_
  refine TL.val (Yl.move rfl) rfl ?_
  refine TL.val (Yl.lss rfl rfl rfl) rfl ?_
  refine TL.next ?_
  refine TC.cond rfl (fun hc4 => ?_) (fun hc4 => ?_)
  · replace hc4 := of_decide_eq_true hc4
    refine TC.seq ?_
    refine TC.region ?_
    refine TL.val (Yl.buildA (vs := k5A.map u64V) [_, _, _, _, _, _, _, _, _, _, _, _, _, _, _, _, _, _, _, _, _, _, _, _, _, _, _, _, _, _, _, _, _, _, _, _, _, _, _, _] Tryz.underlying349 sz167 zr349 rfl (by rfl) rfl ⟨rfl, rfl, rfl, rfl, rfl, rfl, rfl, rfl, rfl, rfl, rfl, rfl, rfl, rfl, rfl, rfl, rfl, rfl, rfl, rfl, rfl, rfl, rfl, rfl, rfl, rfl, rfl, rfl, rfl, rfl, rfl, rfl, rfl, rfl, rfl, rfl, rfl, rfl, rfl, rfl, trivial⟩ rfl) rfl ?_
    refine TL.val (Yl.move rfl) rfl ?_
    refine TL.val (Yl.idxA (j := i) Tryz.underlying349 Tryz.underlying167 rfl sz167 rfl rfl rfl (by omega) (k5A_get (by omega))) rfl ?_
    refine TL.val (Yl.assign rfl) rfl ?_
    refine TL.next ?_
    exact TC.back1 () rfl rfl (fun _ h => h.sub (by repeat (first | exact List.Sublist.refl _ | refine List.Sublist.cons_cons _ ?_ | refine List.Sublist.cons _ ?_)))
  · replace hc4 := of_decide_eq_false hc4
    refine TC.skip_next ?_
    refine TC.seq ?_
    refine TC.region ?_
    refine TL.val (Yl.buildA (vs := k5B.map u64V) [_, _, _, _, _, _, _, _, _, _, _, _, _, _, _, _, _, _, _, _, _, _, _, _, _, _, _, _, _, _, _, _, _, _, _, _, _, _, _, _] Tryz.underlying349 sz167 zr349 rfl (by rfl) rfl ⟨rfl, rfl, rfl, rfl, rfl, rfl, rfl, rfl, rfl, rfl, rfl, rfl, rfl, rfl, rfl, rfl, rfl, rfl, rfl, rfl, rfl, rfl, rfl, rfl, rfl, rfl, rfl, rfl, rfl, rfl, rfl, rfl, rfl, rfl, rfl, rfl, rfl, rfl, rfl, rfl, trivial⟩ rfl) rfl ?_
    refine TL.val (Yl.move rfl) rfl ?_
    refine TL.val (Yl.sub rfl rfl (wI (by omega))) rfl ?_
    refine TL.val (Yl.idxA (j := i - 40) Tryz.underlying349 Tryz.underlying167 rfl sz167 rfl rfl (by omega) (by omega) (k5B_get (by omega) (by omega))) rfl ?_
    refine TL.val (Yl.assign rfl) rfl ?_
    refine TL.next ?_
    exact TC.back1 () rfl rfl (fun _ h => h.sub (by repeat (first | exact List.Sublist.refl _ | refine List.Sublist.cons_cons _ ?_ | refine List.Sublist.cons _ ?_)))
theorem k256_q (i : Nat) (hi : i < 64) : Quiet Tryz.prog 182 #[.int .i64 (i : Int)] [] (.int .u32 (kTab.getD i 0).toNat) := by
  refine Quiet.of_gives fun g Fr => ?_
  refine Gives.enter Tryz.func182 rfl Tryz.ntmps182 rfl ?_
  refine TC.seq ?_
  refine TC.region ?_
  refine TL.val (Yl.assign rfl) rfl ?_
  refine TL.next ?_
  refine TC.seq ?_
  refine TC.region ?_
  refine TL.val (Yl.move rfl) rfl ?_
  refine TL.quiet (Cll.func (xs := [_]) (vs := [_]) Tryz.func183 rfl (by kernel_rfl) ⟨rfl, trivial⟩) rfl (Quiet.none (k512_q i (by omega))) ?_
  refine TL.val (Yl.shrI (c := 32) rfl rfl rfl) rfl ?_
  refine TL.val (Yl.conv Tryz.underlying167 Tryz.underlying42 rfl (w32 _)) rfl ?_
  refine TL.val (Yl.assign rfl) rfl ?_
  refine TL.next ?_
  rw [k5_top hi]
  exact TC.back1 () rfl rfl (fun _ h => h.sub (by repeat (first | exact List.Sublist.refl _ | refine List.Sublist.cons_cons _ ?_ | refine List.Sublist.cons _ ?_)))
attribute [local irreducible] kTab
theorem add_swap (a b c d : UInt32) : a + b + c + d = a + c + b + d := by rw [UInt32.add_assoc a b c, UInt32.add_comm b c, ← UInt32.add_assoc]
set_option maxRecDepth 10000 in
theorem block_g (h : V8) (v : Value) (n : Nat) (s l : List UInt8) (off cap : Nat) (fr : Nat × Nat) (hsl : (l.drop off).take 64 = s) (hs : s.length = 64) (bh b1 : Nat) (g : World) (Fr : HL) : Gives Tryz.prog 180 #[pt bh 0, sl b1 off 64 cap] g ((bh, oC (shaO h v n) 169) :: (b1, .cells ⟨bV l⟩ 5 fr) :: Fr) Unit (fun _ => .tuple #[])
    (fun _ => (bh, oC (shaO (comp h s) v n) 169) :: (b1, .cells ⟨bV l⟩ 5 fr) :: Fr) := by
  refine Gives.enter Tryz.func180 rfl Tryz.ntmps180 rfl ?_
  obtain ⟨R, hR0, hR1, hRc⟩ : ∃ R : Nat → V8, R 0 = h ∧ (∀ i, R (i + 1) = rnd (kTab.getD i 0) ((sched s 64).getD i 0) (R i)) ∧ comp h s = addV h (R 64) := ⟨fun i => rounds s i h, rfl, fun _ => rfl, rfl⟩
  obtain ⟨SS, SW, hS0, hSl, hSg, hSs, hS64⟩ := sched_spec s
  rw [hS64] at hR1
  generalize hc0 : comp h s = cc at *
  subst hRc
  have hbl : ∀ j, j < 64 → l[off + j]? = some (byteAt s j) := fun j hj => by
    have := byteAt_get (s := s) (i := j) (by omega)
    rw [← hsl, List.getElem?_take, if_pos hj, List.getElem?_drop] at this
    rw [hsl] at this; exact this
  refine TC.seq ?_
  refine TC.region ?_
  refine TL.eff (Eff.alloc (zs := wV (SW 0)) zr47 (Eq.trans (b := ⟨wV (List.replicate 64 0)⟩) rfl (congrArg Array.mk hS0))) rfl fun b4 => ?_
  refine TL.next ?_
  refine TC.seq ?_
  refine TC.seq ?_
  refine TC.region ?_
  refine TL.val (Yl.move rfl) rfl ?_
  refine TL.next ?_
  refine TC.block ?_
  refine TC.loopI (σ := Nat) (fun i => [(0, pt bh 0), (1, sl b1 off 64 cap), (4, pt b4 0), (22, .int .i64 (i : Int))]) (fun i => (b4, oC (wV (SW i)) 47) :: (bh, oC (shaO h v n) 169) :: (b1, .cells ⟨bV l⟩ 5 fr) :: Fr) (fun i => i ≤ 16) (fun i => 16 - i) 0 ⟨rfl, rfl, rfl, rfl, trivial⟩ (fun _ h => h) (Nat.zero_le _) (fun i hi => ?_)
  refine TC.seq ?_
  refine TC.region ?_
  refine TL.val (Yl.lss rfl rfl rfl) rfl ?_
  refine TL.next ?_
  refine TC.seq ?_
  refine TC.cond rfl (fun hc23 => ?_) (fun hc23 => ?_)
  · replace hc23 := of_decide_eq_true hc23
    refine TC.skip_next ?_
    refine TC.seq ?_
    refine TC.block ?_
    refine TC.seq ?_
    refine TC.region ?_
    refine TL.val (Yl.move rfl) rfl ?_
    refine TL.val (Yl.assign rfl) rfl ?_
    refine TL.next ?_
    refine TC.draws [35] _ mixed (by kernel_rfl) rfl (fun _ h => h) ?_
    refine TA.pure 0 rfl (by kernel_rfl) (Yl.move rfl) rfl ?_
    refine TA.pure 1 rfl (by kernel_rfl) (Yl.move rfl) rfl ?_
    refine TA.pure 2 rfl (by kernel_rfl) (Yl.move rfl) rfl ?_
    refine TA.pure 3 rfl (by kernel_rfl) (Yl.mul rfl rfl (wI (by omega))) rfl ?_
    refine TA.pure 4 rfl (by kernel_rfl) (Yl.idxAddrS (j := 4 * i) (o := off + 4 * i) Tryz.underlying40 sz5 rfl rfl rfl (by omega) (by omega)) rfl ?_
    refine TA.load 5 rfl (by kernel_rfl) (Yl.loadB (off := off + 4 * i) Tryz.underlying5 rfl rfl (by repeat (first | exact Foc.head | apply Foc.tail)) rfl (hbl _ (by omega))) rfl ?_
    refine TA.pure 6 rfl (by kernel_rfl) (Yl.conv Tryz.underlying5 Tryz.underlying42 rfl (w32_u8 _)) rfl ?_
    refine TA.pure 7 rfl (by kernel_rfl) (Yl.shl32 (c := 24) rfl rfl) rfl ?_
    refine TA.pure 8 rfl (by kernel_rfl) (Yl.move rfl) rfl ?_
    refine TA.pure 9 rfl (by kernel_rfl) (Yl.move rfl) rfl ?_
    refine TA.pure 10 rfl (by kernel_rfl) (Yl.mul rfl rfl (wI (by omega))) rfl ?_
    refine TA.pure 11 rfl (by kernel_rfl) (Yl.add rfl rfl (wI (by omega))) rfl ?_
    refine TA.pure 12 rfl (by kernel_rfl) (Yl.idxAddrS (j := 4 * i + 1) (o := off + (4 * i + 1)) Tryz.underlying40 sz5 rfl rfl rfl (by omega) (by omega)) rfl ?_
    refine TA.load 13 rfl (by kernel_rfl) (Yl.loadB (off := off + (4 * i + 1)) Tryz.underlying5 rfl rfl (by repeat (first | exact Foc.head | apply Foc.tail)) rfl (hbl _ (by omega))) rfl ?_
    refine TA.pure 14 rfl (by kernel_rfl) (Yl.conv Tryz.underlying5 Tryz.underlying42 rfl (w32_u8 _)) rfl ?_
    refine TA.pure 15 rfl (by kernel_rfl) (Yl.shl32 (c := 16) rfl rfl) rfl ?_
    refine TA.pure 16 rfl (by kernel_rfl) (Yl.or32  rfl rfl) rfl ?_
    refine TA.pure 17 rfl (by kernel_rfl) (Yl.move rfl) rfl ?_
    refine TA.pure 18 rfl (by kernel_rfl) (Yl.move rfl) rfl ?_
    refine TA.pure 19 rfl (by kernel_rfl) (Yl.mul rfl rfl (wI (by omega))) rfl ?_
    refine TA.pure 20 rfl (by kernel_rfl) (Yl.add rfl rfl (wI (by omega))) rfl ?_
    refine TA.pure 21 rfl (by kernel_rfl) (Yl.idxAddrS (j := 4 * i + 2) (o := off + (4 * i + 2)) Tryz.underlying40 sz5 rfl rfl rfl (by omega) (by omega)) rfl ?_
    refine TA.load 22 rfl (by kernel_rfl) (Yl.loadB (off := off + (4 * i + 2)) Tryz.underlying5 rfl rfl (by repeat (first | exact Foc.head | apply Foc.tail)) rfl (hbl _ (by omega))) rfl ?_
    refine TA.pure 23 rfl (by kernel_rfl) (Yl.conv Tryz.underlying5 Tryz.underlying42 rfl (w32_u8 _)) rfl ?_
    refine TA.pure 24 rfl (by kernel_rfl) (Yl.shl32 (c := 8) rfl rfl) rfl ?_
    refine TA.pure 25 rfl (by kernel_rfl) (Yl.or32  rfl rfl) rfl ?_
    refine TA.pure 26 rfl (by kernel_rfl) (Yl.move rfl) rfl ?_
    refine TA.pure 27 rfl (by kernel_rfl) (Yl.move rfl) rfl ?_
    refine TA.pure 28 rfl (by kernel_rfl) (Yl.mul rfl rfl (wI (by omega))) rfl ?_
    refine TA.pure 29 rfl (by kernel_rfl) (Yl.add rfl rfl (wI (by omega))) rfl ?_
    refine TA.pure 30 rfl (by kernel_rfl) (Yl.idxAddrS (j := 4 * i + 3) (o := off + (4 * i + 3)) Tryz.underlying40 sz5 rfl rfl rfl (by omega) (by omega)) rfl ?_
    refine TA.load 31 rfl (by kernel_rfl) (Yl.loadB (off := off + (4 * i + 3)) Tryz.underlying5 rfl rfl (by repeat (first | exact Foc.head | apply Foc.tail)) rfl (hbl _ (by omega))) rfl ?_
    refine TA.pure 32 rfl (by kernel_rfl) (Yl.conv Tryz.underlying5 Tryz.underlying42 rfl (w32_u8 _)) rfl ?_
    refine TA.pure 33 rfl (by kernel_rfl) (Yl.or32  rfl rfl) rfl ?_
    refine TA.pure 34 rfl (by kernel_rfl) (Yl.idxAddrA (j := i) (o := i) Tryz.underlying47 sz42 rfl rfl rfl (by omega) (by omega)) rfl ?_
    refine TA.one 35 (by kernel_rfl) ?_
    refine Up.skp rfl rfl (Skp.store1 sz42 rfl rfl rfl (by repeat (first | exact Foc.head | apply Foc.tail)) (by rw [wV_length, hSl _ (by omega)]; omega) (hSs _ _ (by omega) (by rw [if_pos (by omega)]; rfl))) (.inl rfl) ?_
    refine TA.next (by kernel_rfl) ?_
    refine TC.region ?_
    refine TL.val (Yl.add rfl rfl (wI (by omega))) rfl ?_
    refine TL.val (Yl.move rfl) rfl ?_
    exact TL.done (Inv.again (i + 1) (by omega) (by omega) ⟨rfl, rfl, rfl, rfl, trivial⟩ (fun _ h => h))
  · replace hc23 := of_decide_eq_false hc23
    refine TC.exit_next rfl ?_
    refine TC.seq ?_
    refine TC.seq ?_
    obtain rfl : i = 16 := by omega
    refine TC.region ?_
    refine TL.val (Yl.assign rfl) rfl ?_
    refine TL.next ?_
    refine TC.block ?_
    refine TC.loopI (σ := Nat) (fun i => [(0, pt bh 0), (1, sl b1 off 64 cap), (4, pt b4 0), (6, .int .i64 (i : Int))]) (fun i => (b4, oC (wV (SW i)) 47) :: (bh, oC (shaO h v n) 169) :: (b1, .cells ⟨bV l⟩ 5 fr) :: Fr) (fun i => 16 ≤ i ∧ i ≤ 64) (fun i => 64 - i) 16 ⟨rfl, rfl, rfl, rfl, trivial⟩ (fun _ h => h) (by omega) (fun i hi => ?_)
    refine TC.seq ?_
    refine TC.seq ?_
    refine TC.region ?_
    refine TL.val (Yl.move rfl) rfl ?_
    refine TL.val (Yl.lss rfl rfl rfl) rfl ?_
    refine TL.next ?_
    refine TC.cond rfl (fun hc62 => ?_) (fun hc62 => ?_)
    · replace hc62 := of_decide_eq_true hc62
      refine TC.skip_next ?_
      refine TC.seq ?_
      refine TC.block ?_
      refine TC.seq ?_
      refine TC.draws [] _ mixed (by kernel_rfl) rfl (fun _ h => h) ?_
      refine TA.pure 0 rfl (by kernel_rfl) (Yl.move rfl) rfl ?_
      refine TA.pure 1 rfl (by kernel_rfl) (Yl.sub rfl rfl (wI (by omega))) rfl ?_
      refine TA.pure 2 rfl (by kernel_rfl) (Yl.idxAddrA (j := i - 15) (o := i - 15) Tryz.underlying47 sz42 rfl rfl (by omega) (by omega) (by omega)) rfl ?_
      refine TA.load 3 rfl (by kernel_rfl) (Yl.load1 Tryz.underlying42 rfl rfl (by repeat (first | exact Foc.head | apply Foc.tail)) (hSg _ _ (by omega) (by omega))) rfl ?_
      refine TA.pure 4 rfl (by kernel_rfl) (Yl.move rfl) rfl ?_
      refine TA.pure 5 rfl (by kernel_rfl) (Yl.sub rfl rfl (wI (by omega))) rfl ?_
      refine TA.pure 6 rfl (by kernel_rfl) (Yl.idxAddrA (j := i - 2) (o := i - 2) Tryz.underlying47 sz42 rfl rfl (by omega) (by omega) (by omega)) rfl ?_
      refine TA.load 7 rfl (by kernel_rfl) (Yl.load1 Tryz.underlying42 rfl rfl (by repeat (first | exact Foc.head | apply Foc.tail)) (hSg _ _ (by omega) (by omega))) rfl ?_
      refine TA.pure 8 rfl (by kernel_rfl) (Yl.assign rfl) rfl ?_
      refine TA.pure 9 rfl (by kernel_rfl) (Yl.assign rfl) rfl ?_
      refine TA.next (by kernel_rfl) ?_
      refine TC.draws [29] _ mixed (by kernel_rfl) rfl (fun _ h => h) ?_
      refine TA.pure 0 rfl (by kernel_rfl) (Yl.move rfl) rfl ?_
      refine TA.pure 1 rfl (by kernel_rfl) (Yl.move rfl) rfl ?_
      refine TA.pure 2 rfl (by kernel_rfl) (Yl.sub rfl rfl (wI (by omega))) rfl ?_
      refine TA.pure 3 rfl (by kernel_rfl) (Yl.idxAddrA (j := i - 16) (o := i - 16) Tryz.underlying47 sz42 rfl rfl (by omega) (by omega) (by omega)) rfl ?_
      refine TA.load 4 rfl (by kernel_rfl) (Yl.load1 Tryz.underlying42 rfl rfl (by repeat (first | exact Foc.head | apply Foc.tail)) (hSg _ _ (by omega) (by omega))) rfl ?_
      refine TA.pure 5 rfl (by kernel_rfl) (Yl.move rfl) rfl ?_
      refine TA.quiet 6 rfl (by kernel_rfl) (Cll.func (xs := [_, _]) (vs := [_, _]) Tryz.func181 rfl (by kernel_rfl) ⟨rfl, rfl, trivial⟩) rfl (Quiet.none (right_q _ 7 (by decide))) ?_
      refine TA.pure 7 rfl (by kernel_rfl) (Yl.move rfl) rfl ?_
      refine TA.quiet 8 rfl (by kernel_rfl) (Cll.func (xs := [_, _]) (vs := [_, _]) Tryz.func181 rfl (by kernel_rfl) ⟨rfl, rfl, trivial⟩) rfl (Quiet.none (right_q _ 18 (by decide))) ?_
      refine TA.pure 9 rfl (by kernel_rfl) (Yl.xor32  rfl rfl) rfl ?_
      refine TA.pure 10 rfl (by kernel_rfl) (Yl.move rfl) rfl ?_
      refine TA.pure 11 rfl (by kernel_rfl) (Yl.shr32 (c := 3) rfl rfl) rfl ?_
      refine TA.pure 12 rfl (by kernel_rfl) (Yl.xor32  rfl rfl) rfl ?_
      refine TA.pure 13 rfl (by kernel_rfl) (Yl.add rfl rfl (w32_add _ _)) rfl ?_
      refine TA.pure 14 rfl (by kernel_rfl) (Yl.move rfl) rfl ?_
      refine TA.pure 15 rfl (by kernel_rfl) (Yl.sub rfl rfl (wI (by omega))) rfl ?_
      refine TA.pure 16 rfl (by kernel_rfl) (Yl.idxAddrA (j := i - 7) (o := i - 7) Tryz.underlying47 sz42 rfl rfl (by omega) (by omega) (by omega)) rfl ?_
      refine TA.load 17 rfl (by kernel_rfl) (Yl.load1 Tryz.underlying42 rfl rfl (by repeat (first | exact Foc.head | apply Foc.tail)) (hSg _ _ (by omega) (by omega))) rfl ?_
      refine TA.pure 18 rfl (by kernel_rfl) (Yl.add rfl rfl (w32_add _ _)) rfl ?_
      refine TA.pure 19 rfl (by kernel_rfl) (Yl.move rfl) rfl ?_
      refine TA.quiet 20 rfl (by kernel_rfl) (Cll.func (xs := [_, _]) (vs := [_, _]) Tryz.func181 rfl (by kernel_rfl) ⟨rfl, rfl, trivial⟩) rfl (Quiet.none (right_q _ 17 (by decide))) ?_
      refine TA.pure 21 rfl (by kernel_rfl) (Yl.move rfl) rfl ?_
      refine TA.quiet 22 rfl (by kernel_rfl) (Cll.func (xs := [_, _]) (vs := [_, _]) Tryz.func181 rfl (by kernel_rfl) ⟨rfl, rfl, trivial⟩) rfl (Quiet.none (right_q _ 19 (by decide))) ?_
      refine TA.pure 23 rfl (by kernel_rfl) (Yl.xor32  rfl rfl) rfl ?_
      refine TA.pure 24 rfl (by kernel_rfl) (Yl.move rfl) rfl ?_
      refine TA.pure 25 rfl (by kernel_rfl) (Yl.shr32 (c := 10) rfl rfl) rfl ?_
      refine TA.pure 26 rfl (by kernel_rfl) (Yl.xor32  rfl rfl) rfl ?_
      refine TA.pure 27 rfl (by kernel_rfl) (Yl.add rfl rfl (w32_add _ _)) rfl ?_
      refine TA.pure 28 rfl (by kernel_rfl) (Yl.idxAddrA (j := i) (o := i) Tryz.underlying47 sz42 rfl rfl rfl (by omega) (by omega)) rfl ?_
      refine TA.one 29 (by kernel_rfl) ?_
      refine Up.skp rfl rfl (Skp.store1 sz42 rfl rfl rfl (by repeat (first | exact Foc.head | apply Foc.tail)) (by rw [wV_length, hSl _ (by omega)]; omega) (hSs _ _ (by omega) (by rw [if_neg (by omega)]; exact add_swap _ _ _ _))) (.inl rfl) ?_
      refine TA.next (by kernel_rfl) ?_
      refine TC.region ?_
      refine TL.val (Yl.move rfl) rfl ?_
      refine TL.val (Yl.add rfl rfl (wI (by omega))) rfl ?_
      refine TL.val (Yl.assign rfl) rfl ?_
      exact TL.done (Inv.again (i + 1) (by omega) (by omega) ⟨rfl, rfl, rfl, rfl, trivial⟩ (fun _ h => h))
    · replace hc62 := of_decide_eq_false hc62
      refine TC.exit_next rfl ?_
      refine TC.seq ?_
      obtain rfl : i = 64 := by omega
      refine TC.draws [] _ mixed (by kernel_rfl) rfl (fun _ h => h) ?_
      refine TA.pure 0 rfl (by kernel_rfl) (Yl.move rfl) rfl ?_
      refine TA.pure 1 rfl (by kernel_rfl) (Yl.nilCheckP rfl) rfl ?_
      refine TA.pure 2 rfl (by kernel_rfl) (Yl.fieldAddr (k := 46) (m := 0) (o := 0) Tryz.underlying169 rfl sz46 rfl rfl) rfl ?_
      refine TA.pure 3 rfl (by kernel_rfl) (Yl.idxAddrA (j := 0) (o := 0) Tryz.underlying46 sz42 rfl rfl rfl (Nat.le_of_ble_eq_true rfl) rfl) rfl ?_
      refine TA.load 4 rfl (by kernel_rfl) (Yl.load1 Tryz.underlying42 rfl rfl (by repeat (first | exact Foc.head | apply Foc.tail)) rfl) rfl ?_
      refine TA.pure 5 rfl (by kernel_rfl) (Yl.move rfl) rfl ?_
      refine TA.pure 6 rfl (by kernel_rfl) (Yl.nilCheckP rfl) rfl ?_
      refine TA.pure 7 rfl (by kernel_rfl) (Yl.fieldAddr (k := 46) (m := 0) (o := 0) Tryz.underlying169 rfl sz46 rfl rfl) rfl ?_
      refine TA.pure 8 rfl (by kernel_rfl) (Yl.idxAddrA (j := 1) (o := 1) Tryz.underlying46 sz42 rfl rfl rfl (Nat.le_of_ble_eq_true rfl) rfl) rfl ?_
      refine TA.load 9 rfl (by kernel_rfl) (Yl.load1 Tryz.underlying42 rfl rfl (by repeat (first | exact Foc.head | apply Foc.tail)) rfl) rfl ?_
      refine TA.pure 10 rfl (by kernel_rfl) (Yl.move rfl) rfl ?_
      refine TA.pure 11 rfl (by kernel_rfl) (Yl.nilCheckP rfl) rfl ?_
      refine TA.pure 12 rfl (by kernel_rfl) (Yl.fieldAddr (k := 46) (m := 0) (o := 0) Tryz.underlying169 rfl sz46 rfl rfl) rfl ?_
      refine TA.pure 13 rfl (by kernel_rfl) (Yl.idxAddrA (j := 2) (o := 2) Tryz.underlying46 sz42 rfl rfl rfl (Nat.le_of_ble_eq_true rfl) rfl) rfl ?_
      refine TA.load 14 rfl (by kernel_rfl) (Yl.load1 Tryz.underlying42 rfl rfl (by repeat (first | exact Foc.head | apply Foc.tail)) rfl) rfl ?_
      refine TA.pure 15 rfl (by kernel_rfl) (Yl.move rfl) rfl ?_
      refine TA.pure 16 rfl (by kernel_rfl) (Yl.nilCheckP rfl) rfl ?_
      refine TA.pure 17 rfl (by kernel_rfl) (Yl.fieldAddr (k := 46) (m := 0) (o := 0) Tryz.underlying169 rfl sz46 rfl rfl) rfl ?_
      refine TA.pure 18 rfl (by kernel_rfl) (Yl.idxAddrA (j := 3) (o := 3) Tryz.underlying46 sz42 rfl rfl rfl (Nat.le_of_ble_eq_true rfl) rfl) rfl ?_
      refine TA.load 19 rfl (by kernel_rfl) (Yl.load1 Tryz.underlying42 rfl rfl (by repeat (first | exact Foc.head | apply Foc.tail)) rfl) rfl ?_
      refine TA.pure 20 rfl (by kernel_rfl) (Yl.move rfl) rfl ?_
      refine TA.pure 21 rfl (by kernel_rfl) (Yl.nilCheckP rfl) rfl ?_
      refine TA.pure 22 rfl (by kernel_rfl) (Yl.fieldAddr (k := 46) (m := 0) (o := 0) Tryz.underlying169 rfl sz46 rfl rfl) rfl ?_
      refine TA.pure 23 rfl (by kernel_rfl) (Yl.idxAddrA (j := 4) (o := 4) Tryz.underlying46 sz42 rfl rfl rfl (Nat.le_of_ble_eq_true rfl) rfl) rfl ?_
      refine TA.load 24 rfl (by kernel_rfl) (Yl.load1 Tryz.underlying42 rfl rfl (by repeat (first | exact Foc.head | apply Foc.tail)) rfl) rfl ?_
      refine TA.pure 25 rfl (by kernel_rfl) (Yl.move rfl) rfl ?_
      refine TA.pure 26 rfl (by kernel_rfl) (Yl.nilCheckP rfl) rfl ?_
      refine TA.pure 27 rfl (by kernel_rfl) (Yl.fieldAddr (k := 46) (m := 0) (o := 0) Tryz.underlying169 rfl sz46 rfl rfl) rfl ?_
      refine TA.pure 28 rfl (by kernel_rfl) (Yl.idxAddrA (j := 5) (o := 5) Tryz.underlying46 sz42 rfl rfl rfl (Nat.le_of_ble_eq_true rfl) rfl) rfl ?_
      refine TA.load 29 rfl (by kernel_rfl) (Yl.load1 Tryz.underlying42 rfl rfl (by repeat (first | exact Foc.head | apply Foc.tail)) rfl) rfl ?_
      refine TA.pure 30 rfl (by kernel_rfl) (Yl.move rfl) rfl ?_
      refine TA.pure 31 rfl (by kernel_rfl) (Yl.nilCheckP rfl) rfl ?_
      refine TA.pure 32 rfl (by kernel_rfl) (Yl.fieldAddr (k := 46) (m := 0) (o := 0) Tryz.underlying169 rfl sz46 rfl rfl) rfl ?_
      refine TA.pure 33 rfl (by kernel_rfl) (Yl.idxAddrA (j := 6) (o := 6) Tryz.underlying46 sz42 rfl rfl rfl (Nat.le_of_ble_eq_true rfl) rfl) rfl ?_
      refine TA.load 34 rfl (by kernel_rfl) (Yl.load1 Tryz.underlying42 rfl rfl (by repeat (first | exact Foc.head | apply Foc.tail)) rfl) rfl ?_
      refine TA.pure 35 rfl (by kernel_rfl) (Yl.move rfl) rfl ?_
      refine TA.pure 36 rfl (by kernel_rfl) (Yl.nilCheckP rfl) rfl ?_
      refine TA.pure 37 rfl (by kernel_rfl) (Yl.fieldAddr (k := 46) (m := 0) (o := 0) Tryz.underlying169 rfl sz46 rfl rfl) rfl ?_
      refine TA.pure 38 rfl (by kernel_rfl) (Yl.idxAddrA (j := 7) (o := 7) Tryz.underlying46 sz42 rfl rfl rfl (Nat.le_of_ble_eq_true rfl) rfl) rfl ?_
      refine TA.load 39 rfl (by kernel_rfl) (Yl.load1 Tryz.underlying42 rfl rfl (by repeat (first | exact Foc.head | apply Foc.tail)) rfl) rfl ?_
      refine TA.pure 40 rfl (by kernel_rfl) (Yl.assign rfl) rfl ?_
      refine TA.pure 41 rfl (by kernel_rfl) (Yl.assign rfl) rfl ?_
      refine TA.pure 42 rfl (by kernel_rfl) (Yl.assign rfl) rfl ?_
      refine TA.pure 43 rfl (by kernel_rfl) (Yl.assign rfl) rfl ?_
      refine TA.pure 44 rfl (by kernel_rfl) (Yl.assign rfl) rfl ?_
      refine TA.pure 45 rfl (by kernel_rfl) (Yl.assign rfl) rfl ?_
      refine TA.pure 46 rfl (by kernel_rfl) (Yl.assign rfl) rfl ?_
      refine TA.pure 47 rfl (by kernel_rfl) (Yl.assign rfl) rfl ?_
      refine TA.next (by kernel_rfl) ?_
      refine TC.seq ?_
      refine TC.seq ?_
      refine TC.region ?_
      refine TL.val (Yl.move rfl) rfl ?_
      refine TL.next ?_
      refine TC.block ?_
      refine TC.loopI (σ := Nat) (fun i => [(0, pt bh 0), (1, sl b1 off 64 cap), (4, pt b4 0), (9, .int .u32 ((R i).a.toNat : Int)), (10, .int .u32 ((R i).b.toNat : Int)), (11, .int .u32 ((R i).c.toNat : Int)), (12, .int .u32 ((R i).d.toNat : Int)), (13, .int .u32 ((R i).e.toNat : Int)), (14, .int .u32 ((R i).f.toNat : Int)), (15, .int .u32 ((R i).g.toNat : Int)), (16, .int .u32 ((R i).h.toNat : Int)), (142, .int .i64 (i : Int))]) (fun i => (b4, oC (wV (SW 64)) 47) :: (bh, oC (shaO h v n) 169) :: (b1, .cells ⟨bV l⟩ 5 fr) :: Fr) (fun i => i ≤ 64) (fun i => 64 - i) 0 ⟨rfl, rfl, rfl, (by rw [hR0]; rfl), (by rw [hR0]; rfl), (by rw [hR0]; rfl), (by rw [hR0]; rfl), (by rw [hR0]; rfl), (by rw [hR0]; rfl), (by rw [hR0]; rfl), (by rw [hR0]; rfl), rfl, trivial⟩ (fun _ h => h) (Nat.zero_le _) (fun i hi => ?_)
      refine TC.seq ?_
      refine TC.region ?_
      refine TL.val (Yl.lss rfl rfl rfl) rfl ?_
      refine TL.next ?_
      refine TC.seq ?_
      refine TC.cond rfl (fun hc143 => ?_) (fun hc143 => ?_)
      · replace hc143 := of_decide_eq_true hc143
        refine TC.skip_next ?_
        refine TC.seq ?_
        refine TC.block ?_
        refine TC.seq ?_
        refine TC.region ?_
        refine TL.val (Yl.move rfl) rfl ?_
        refine TL.val (Yl.assign rfl) rfl ?_
        refine TL.next ?_
        refine TC.seq ?_
        refine TC.draws [] _ mixed (by kernel_rfl) rfl (fun _ h => h) ?_
        refine TA.pure 0 rfl (by kernel_rfl) (Yl.move rfl) rfl ?_
        refine TA.pure 1 rfl (by kernel_rfl) (Yl.move rfl) rfl ?_
        refine TA.quiet 2 rfl (by kernel_rfl) (Cll.func (xs := [_, _]) (vs := [_, _]) Tryz.func181 rfl (by kernel_rfl) ⟨rfl, rfl, trivial⟩) rfl (Quiet.none (right_q _ 6 (by decide))) ?_
        refine TA.pure 3 rfl (by kernel_rfl) (Yl.move rfl) rfl ?_
        refine TA.quiet 4 rfl (by kernel_rfl) (Cll.func (xs := [_, _]) (vs := [_, _]) Tryz.func181 rfl (by kernel_rfl) ⟨rfl, rfl, trivial⟩) rfl (Quiet.none (right_q _ 11 (by decide))) ?_
        refine TA.pure 5 rfl (by kernel_rfl) (Yl.xor32  rfl rfl) rfl ?_
        refine TA.pure 6 rfl (by kernel_rfl) (Yl.move rfl) rfl ?_
        refine TA.quiet 7 rfl (by kernel_rfl) (Cll.func (xs := [_, _]) (vs := [_, _]) Tryz.func181 rfl (by kernel_rfl) ⟨rfl, rfl, trivial⟩) rfl (Quiet.none (right_q _ 25 (by decide))) ?_
        refine TA.pure 8 rfl (by kernel_rfl) (Yl.xor32  rfl rfl) rfl ?_
        refine TA.pure 9 rfl (by kernel_rfl) (Yl.add rfl rfl (w32_add _ _)) rfl ?_
        refine TA.pure 10 rfl (by kernel_rfl) (Yl.move rfl) rfl ?_
        refine TA.pure 11 rfl (by kernel_rfl) (Yl.move rfl) rfl ?_
        refine TA.pure 12 rfl (by kernel_rfl) (Yl.and32  rfl rfl) rfl ?_
        refine TA.pure 13 rfl (by kernel_rfl) (Yl.move rfl) rfl ?_
        refine TA.pure 14 rfl (by kernel_rfl) (Yl.not32 rfl) rfl ?_
        refine TA.pure 15 rfl (by kernel_rfl) (Yl.move rfl) rfl ?_
        refine TA.pure 16 rfl (by kernel_rfl) (Yl.and32  rfl rfl) rfl ?_
        refine TA.pure 17 rfl (by kernel_rfl) (Yl.xor32  rfl rfl) rfl ?_
        refine TA.pure 18 rfl (by kernel_rfl) (Yl.add rfl rfl (w32_add _ _)) rfl ?_
        refine TA.pure 19 rfl (by kernel_rfl) (Yl.move rfl) rfl ?_
        refine TA.quiet 20 rfl (by kernel_rfl) (Cll.func (xs := [_]) (vs := [_]) Tryz.func182 rfl (by kernel_rfl) ⟨rfl, trivial⟩) rfl (Quiet.none (k256_q i (by omega))) ?_
        refine TA.pure 21 rfl (by kernel_rfl) (Yl.add rfl rfl (w32_add _ _)) rfl ?_
        refine TA.pure 22 rfl (by kernel_rfl) (Yl.move rfl) rfl ?_
        refine TA.pure 23 rfl (by kernel_rfl) (Yl.idxAddrA (j := i) (o := i) Tryz.underlying47 sz42 rfl rfl rfl (by omega) (by omega)) rfl ?_
        refine TA.load 24 rfl (by kernel_rfl) (Yl.load1 Tryz.underlying42 rfl rfl (by repeat (first | exact Foc.head | apply Foc.tail)) (hSg _ _ (by omega) (by omega))) rfl ?_
        refine TA.pure 25 rfl (by kernel_rfl) (Yl.add rfl rfl (w32_add _ _)) rfl ?_
        refine TA.pure 26 rfl (by kernel_rfl) (Yl.assign rfl) rfl ?_
        refine TA.next (by kernel_rfl) ?_
        refine TC.seq ?_
        refine TC.region ?_
        refine TL.val (Yl.move rfl) rfl ?_
        refine TL.quiet (Cll.func (xs := [_, _]) (vs := [_, _]) Tryz.func181 rfl (by kernel_rfl) ⟨rfl, rfl, trivial⟩) rfl (Quiet.none (right_q _ 2 (by decide))) ?_
        refine TL.val (Yl.move rfl) rfl ?_
        refine TL.quiet (Cll.func (xs := [_, _]) (vs := [_, _]) Tryz.func181 rfl (by kernel_rfl) ⟨rfl, rfl, trivial⟩) rfl (Quiet.none (right_q _ 13 (by decide))) ?_
        refine TL.val (Yl.xor32  rfl rfl) rfl ?_
        refine TL.val (Yl.move rfl) rfl ?_
        refine TL.quiet (Cll.func (xs := [_, _]) (vs := [_, _]) Tryz.func181 rfl (by kernel_rfl) ⟨rfl, rfl, trivial⟩) rfl (Quiet.none (right_q _ 22 (by decide))) ?_
        refine TL.val (Yl.xor32  rfl rfl) rfl ?_
        refine TL.val (Yl.move rfl) rfl ?_
        refine TL.val (Yl.move rfl) rfl ?_
        refine TL.val (Yl.and32  rfl rfl) rfl ?_
        refine TL.val (Yl.move rfl) rfl ?_
        refine TL.val (Yl.move rfl) rfl ?_
        refine TL.val (Yl.and32  rfl rfl) rfl ?_
        refine TL.val (Yl.xor32  rfl rfl) rfl ?_
        refine TL.val (Yl.move rfl) rfl ?_
        refine TL.val (Yl.move rfl) rfl ?_
        refine TL.val (Yl.and32  rfl rfl) rfl ?_
        refine TL.val (Yl.xor32  rfl rfl) rfl ?_
        refine TL.val (Yl.add rfl rfl (w32_add _ _)) rfl ?_
        refine TL.val (Yl.assign rfl) rfl ?_
        refine TL.next ?_
        refine TC.region ?_
        refine TL.val (Yl.move rfl) rfl ?_
        refine TL.val (Yl.move rfl) rfl ?_
        refine TL.val (Yl.move rfl) rfl ?_
        refine TL.val (Yl.move rfl) rfl ?_
        refine TL.val (Yl.move rfl) rfl ?_
        refine TL.val (Yl.add rfl rfl (w32_add _ _)) rfl ?_
        refine TL.val (Yl.move rfl) rfl ?_
        refine TL.val (Yl.move rfl) rfl ?_
        refine TL.val (Yl.move rfl) rfl ?_
        refine TL.val (Yl.move rfl) rfl ?_
        refine TL.val (Yl.move rfl) rfl ?_
        refine TL.val (Yl.add rfl rfl (w32_add _ _)) rfl ?_
        refine TL.val (Yl.assign rfl) rfl ?_
        refine TL.val (Yl.assign rfl) rfl ?_
        refine TL.val (Yl.assign rfl) rfl ?_
        refine TL.val (Yl.assign rfl) rfl ?_
        refine TL.val (Yl.assign rfl) rfl ?_
        refine TL.val (Yl.assign rfl) rfl ?_
        refine TL.val (Yl.assign rfl) rfl ?_
        refine TL.val (Yl.assign rfl) rfl ?_
        refine TL.next ?_
        refine TC.region ?_
        refine TL.val (Yl.add rfl rfl (wI (by omega))) rfl ?_
        refine TL.val (Yl.move rfl) rfl ?_
        exact TL.done (Inv.again (i + 1) (by omega) (by omega) ⟨rfl, rfl, rfl, (by rw [hR1]; rfl), (by rw [hR1]; rfl), (by rw [hR1]; rfl), (by rw [hR1]; rfl), (by rw [hR1]; rfl), (by rw [hR1]; rfl), (by rw [hR1]; rfl), (by rw [hR1]; rfl), rfl, trivial⟩ (fun _ h => h))
      · replace hc143 := of_decide_eq_false hc143
        refine TC.exit_next rfl ?_
        refine TC.seq ?_
        obtain rfl : i = 64 := by omega
        refine TC.region ?_
        refine TL.val (Yl.move rfl) rfl ?_
        refine TL.val (Yl.move rfl) rfl ?_
        refine TL.val (Yl.move rfl) rfl ?_
        refine TL.val (Yl.move rfl) rfl ?_
        refine TL.val (Yl.move rfl) rfl ?_
        refine TL.val (Yl.move rfl) rfl ?_
        refine TL.val (Yl.move rfl) rfl ?_
        refine TL.val (Yl.move rfl) rfl ?_
        refine TL.val (Yl.buildA (vs := wV (R 64).list) [_, _, _, _, _, _, _, _] Tryz.underlying46 sz42 zr46 rfl (by rfl) rfl ⟨rfl, rfl, rfl, rfl, rfl, rfl, rfl, rfl, trivial⟩ rfl) rfl ?_
        refine TL.val (Yl.move rfl) rfl ?_
        refine TL.next ?_
        refine TC.block ?_
        refine TC.loopI (σ := Nat) (fun j => [(0, pt bh 0), (212, .agg ⟨wV (R 64).list⟩), (213, .int .i64 (j : Int))]) (fun j => (b4, oC (wV (SW 64)) 47) :: (bh, oC (wV (addL h.list (R 64).list j) ++ [v, .int .u64 (n : Int)]) 169) :: (b1, .cells ⟨bV l⟩ 5 fr) :: Fr) (fun j => j ≤ 8) (fun j => 8 - j) 0 ⟨rfl, rfl, rfl, trivial⟩ (fun _ h => h) (Nat.zero_le _) (fun j hj => ?_)
        refine TC.seq ?_
        refine TC.region ?_
        refine TL.val (Yl.lss rfl rfl rfl) rfl ?_
        refine TL.next ?_
        refine TC.seq ?_
        refine TC.cond rfl (fun hc214 => ?_) (fun hc214 => ?_)
        · replace hc214 := of_decide_eq_true hc214
          refine TC.skip_next ?_
          refine TC.seq ?_
          refine TC.block ?_
          refine TC.seq ?_
          refine TC.region ?_
          refine TL.val (Yl.move rfl) rfl ?_
          refine TL.val (Yl.idxA (j := j) Tryz.underlying46 Tryz.underlying42 rfl sz42 rfl rfl rfl (by omega) (wV_get (l := (R 64).list) (show j < 8 by omega))) rfl ?_
          refine TL.val (Yl.assign rfl) rfl ?_
          refine TL.val (Yl.assign rfl) rfl ?_
          refine TL.next ?_
          refine TC.draws [11] _ mixed (by kernel_rfl) rfl (fun _ h => h) ?_
          refine TA.pure 0 rfl (by kernel_rfl) (Yl.move rfl) rfl ?_
          refine TA.pure 1 rfl (by kernel_rfl) (Yl.move rfl) rfl ?_
          refine TA.pure 2 rfl (by kernel_rfl) (Yl.nilCheckP rfl) rfl ?_
          refine TA.pure 3 rfl (by kernel_rfl) (Yl.fieldAddr (k := 46) (m := 0) (o := 0) Tryz.underlying169 rfl sz46 rfl rfl) rfl ?_
          refine TA.pure 4 rfl (by kernel_rfl) (Yl.idxAddrA (j := j) (o := j) Tryz.underlying46 sz42 rfl rfl rfl (by omega) (by omega)) rfl ?_
          refine TA.load 5 rfl (by kernel_rfl) (Yl.load1 Tryz.underlying42 rfl rfl (by repeat (first | exact Foc.head | apply Foc.tail)) ((List.getElem?_append_left (by rw [wV_length, (addL_length (a := h.list) (b := (R 64).list) rfl (show j ≤ 8 by omega))]; exact (show j < 8 by omega))).trans ((wV_get (by rw [(addL_length (a := h.list) (b := (R 64).list) rfl (show j ≤ 8 by omega))]; exact (show j < 8 by omega))).trans (congrArg (fun x : UInt32 => some (Value.int .u32 (x.toNat : Int))) (addL_get (a := h.list) (b := (R 64).list) rfl (show j < 8 by omega)))))) rfl ?_
          refine TA.pure 6 rfl (by kernel_rfl) (Yl.move rfl) rfl ?_
          refine TA.pure 7 rfl (by kernel_rfl) (Yl.add rfl rfl (w32_add _ _)) rfl ?_
          refine TA.pure 8 rfl (by kernel_rfl) (Yl.nilCheckP rfl) rfl ?_
          refine TA.pure 9 rfl (by kernel_rfl) (Yl.fieldAddr (k := 46) (m := 0) (o := 0) Tryz.underlying169 rfl sz46 rfl rfl) rfl ?_
          refine TA.pure 10 rfl (by kernel_rfl) (Yl.idxAddrA (j := j) (o := j) Tryz.underlying46 sz42 rfl rfl rfl (by omega) (by omega)) rfl ?_
          refine TA.one 11 (by kernel_rfl) ?_
          refine Up.skp rfl rfl (Skp.store1 sz42 rfl rfl rfl (by repeat (first | exact Foc.head | apply Foc.tail)) (by rw [List.length_append, wV_length, (addL_length (a := h.list) (b := (R 64).list) rfl (show j ≤ 8 by omega))]; exact (show j < 10 by omega)) ((List.set_append_left _ _ (by rw [wV_length, (addL_length (a := h.list) (b := (R 64).list) rfl (show j ≤ 8 by omega))]; exact (show j < 8 by omega))).trans (congrArg (· ++ [v, .int .u64 (n : Int)]) ((wV_set _ _ _).trans (congrArg wV (addL_set (a := h.list) (b := (R 64).list) rfl (show j < 8 by omega))))))) (.inl rfl) ?_
          refine TA.next (by kernel_rfl) ?_
          refine TC.region ?_
          refine TL.val (Yl.add rfl rfl (wI (by omega))) rfl ?_
          refine TL.val (Yl.move rfl) rfl ?_
          exact TL.done (Inv.again (j + 1) (by omega) (by omega) ⟨rfl, rfl, rfl, trivial⟩ (fun _ h => h))
        · replace hc214 := of_decide_eq_false hc214
          obtain rfl : j = 8 := by omega
          exact TC.exit (Back.end0 () rfl rfl (fun _ h => h.sub (by repeat (first | exact List.Sublist.refl _ | refine List.Sublist.cons_cons _ ?_ | refine List.Sublist.cons _ ?_))))
end Go.Proofs.YtlhncphipfkkjaaGreatDoor
