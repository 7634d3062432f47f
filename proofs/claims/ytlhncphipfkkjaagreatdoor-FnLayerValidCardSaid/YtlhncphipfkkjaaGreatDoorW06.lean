/- The contracts of the program's hasher, of the layer that is said, of readers, and of reading in full; conditions: bounds on lengths, in each contract. -/
import Derived.Test.YtlhncphipfkkjaaGreatDoorW05
namespace Go.Proofs.YtlhncphipfkkjaaGreatDoor
open Go
theorem shaO_nil : shaO iv (.slice none 0 0) 0 = v8C iv ++ [.slice none 0 0, .int .u64 0] := rfl
/-- the hasher that has read l: its block, and what it holds -/
def ShaAt (bh : Nat) (l : List UInt8) (q : Value × HL) : HL := (bh, oC (shaO (shaS l) q.1 l.length) 169) :: q.2
def Held (l : List UInt8) : Type := { q : Value × HL // SlB 5 (rest l) q.1 q.2 }
theorem drop_blk {L : List UInt8} {k : Nat} : ((L.drop (64 * k)).take 64) = blk L k := by
  rw [blk, List.drop_take, show 64 * k + 64 - 64 * k = 64 by omega]
theorem SlB.tail {te : TypeId} {xs : List UInt8} {b off cap : Nat} {l : List UInt8} {fr : Nat × Nat} (h1 : xs.length ≤ cap) (h2 : off + cap ≤ l.length) (h3 : (l.drop off).take xs.length = xs) (k : Nat) (hk : k ≤ xs.length) :
    SlB te (xs.drop k) (sl b (adv off cap k 1) (xs.length - k) (cap - k)) [(b, oC (bV l) te)] := by
  refine .inr ⟨b, adv off cap k 1, cap - k, l, by rw [List.length_drop], rfl, by rw [List.length_drop]; omega, ?_, ?_⟩
  · rcases adv_off (off := off) (show k ≤ cap by omega) with h | ⟨h, _⟩ <;> rw [h] <;> omega
  · rw [List.length_drop]
    rcases adv_off (off := off) (show k ≤ cap by omega) with h | ⟨h, hc⟩
    · rw [h, ← List.drop_drop, ← List.drop_take, h3]
    · have : xs.length - k = 0 := by omega
      rw [this, List.take_zero, List.drop_eq_nil_of_le (by omega)]
theorem lay_all {cs vs : List Value} (h : cs.length = vs.length) : lay cs 0 vs = vs := by
  unfold lay; simp [← h]
theorem reset_g (cs : List Value) (hl : cs.length = 10) (bh : Nat) (g : World) (Fr : HL) : Gives Tryz.prog 43 #[pt bh 0] g ((bh, oC cs 169) :: Fr) Unit (fun _ => .tuple #[]) (fun _ => (bh, oC (shaO iv (.slice none 0 0) 0) 169) :: Fr) := by
  refine Gives.enter Tryz.func43 rfl Tryz.ntmps43 rfl ?_
  refine TC.region ?_
  refine TL.val (Yl.move rfl) rfl ?_
  refine TL.val (Yl.buildA (vs := v8C iv) [_, _, _, _, _, _, _, _] Tryz.underlying46 sz42 zr46 rfl (by rfl) rfl ⟨rfl, rfl, rfl, rfl, rfl, rfl, rfl, rfl, trivial⟩ rfl) rfl ?_
  refine TL.val (Yl.build (ixs := [0]) (vs := [.agg ⟨v8C iv⟩]) (rs := shaO iv (.slice none 0 0) 0) [_] st169 rfl ⟨rfl, trivial⟩ rfl) rfl ?_
  refine TL.val (Yl.nilCheckP rfl) rfl ?_
  refine TL.skp (Skp.storeA (vs := shaO iv (.slice none 0 0) 0) (cs' := shaO iv (.slice none 0 0) 0) sz169 rfl rfl rfl (by repeat (first | exact Foc.head | apply Foc.tail | apply Foc.right)) (by simp only [hl]; exact Nat.le_refl 10) (lay_all (by rw [hl]; rfl))) ?_
  exact TL.done (Back.end0 () rfl rfl (fun _ h => h.sub (by repeat (first | exact List.Sublist.refl _ | exact List.sublist_append_right _ _ | refine List.Sublist.cons_cons _ ?_ | refine List.Sublist.cons _ ?_))))
theorem new256_g (g : World) (Fr : HL) : Gives Tryz.prog 30 #[] g Fr ((_ : Nat) × Held []) (fun q => .iface 166 (pt q.1 0)) (fun q => ShaAt q.1 [] q.2.1 ++ Fr) := by
  refine Gives.enter Tryz.func30 rfl Tryz.ntmps30 rfl ?_
  refine TC.seq ?_
  refine TC.region ?_
  refine TL.val (Yl.assign rfl) rfl ?_
  refine TL.next ?_
  refine TC.seq ?_
  refine TC.region ?_
  refine TL.val (Yl.build (ixs := []) (vs := []) (rs := v8C ⟨0, 0, 0, 0, 0, 0, 0, 0⟩ ++ [.slice none 0 0, .int .u64 0]) [] st169 rfl trivial rfl) rfl ?_
  refine TL.eff (Eff.box rfl rfl) rfl fun b3 => ?_
  refine TL.val (Yl.assign rfl) rfl ?_
  refine TL.next ?_
  refine TC.seq ?_
  refine TC.region ?_
  refine TL.val (Yl.move rfl) rfl ?_
  refine TL.call (Cll.func (xs := [_]) (vs := [_]) Tryz.func43 rfl (by kernel_rfl) ⟨rfl, trivial⟩) rfl (reset_g _ rfl b3 g _) fun _ => ?_
  refine TL.next ?_
  refine TC.seq ?_
  refine TC.region ?_
  refine TL.val (Yl.move rfl) rfl ?_
  refine TL.val (Yl.iface Tryz.underlying166 rfl rfl) rfl ?_
  refine TL.val (Yl.assign rfl) rfl ?_
  refine TL.next ?_
  exact TC.back1 (⟨b3, ⟨(.slice none 0 0, []), SlB.nil⟩⟩ : (_ : Nat) × Held []) rfl rfl (fun _ h => h)
theorem size_q (bh : Nat) : Quiet Tryz.prog 177 #[pt bh 0] [] (.int .i64 32) := by
  refine Quiet.of_gives fun g Fr => ?_
  refine Gives.enter Tryz.func177 rfl Tryz.ntmps177 rfl ?_
  refine TC.seq ?_
  refine TC.region ?_
  refine TL.val (Yl.assign rfl) rfl ?_
  refine TL.next ?_
  refine TC.seq ?_
  refine TC.region ?_
  refine TL.val (Yl.assign rfl) rfl ?_
  refine TL.next ?_
  exact TC.back1 () rfl rfl (fun _ h => h)
theorem write_g {te : TypeId} (l data lp : List UInt8) (q : Held l) (bh bp off m cap : Nat) (fr : Nat × Nat) (hd : (lp.drop off).take m = data) (hdl : data.length = m) (hl : l.length + m ≤ 1099511627776) (g : World) (Fr : HL) :
    Gives Tryz.prog 179 #[pt bh 0, sl bp off m cap] g (ShaAt bh l q.1 ++ (bp, .cells ⟨bV lp⟩ te fr) :: Fr) (Held (l ++ data)) (fun _ => .tuple #[.int .i64 (m : Int), .nilIface]) (fun q' => ShaAt bh (l ++ data) q'.1 ++ (bp, .cells ⟨bV lp⟩ te fr) :: Fr) := by
  refine Gives.enter Tryz.func179 rfl Tryz.ntmps179 rfl ?_
  obtain ⟨⟨v, H1⟩, hv⟩ := q
  dsimp only at hv ⊢
  have hrl : (rest l).length = l.length % 64 := by unfold rest; rw [List.length_drop]; omega
  refine TC.seq ?_
  refine TC.region ?_
  refine TL.val (Yl.assign rfl) rfl ?_
  refine TL.val (Yl.assign rfl) rfl ?_
  refine TL.next ?_
  refine TC.seq ?_
  refine TC.region ?_
  refine TL.val (Yl.move rfl) rfl ?_
  refine TL.val (Yl.nilCheckP rfl) rfl ?_
  refine TL.val (Yl.fieldAddr (k := 167) (m := 9) (o := 9) Tryz.underlying169 rfl sz167 rfl rfl) rfl ?_
  refine TL.val (Yl.load1 (v := .int .u64 (l.length : Int)) Tryz.underlying167 rfl rfl (by repeat (first | exact Foc.head | apply Foc.tail | apply Foc.right)) rfl) rfl ?_
  refine TL.val (Yl.move rfl) rfl ?_
  refine TL.val (Yl.lenL Tryz.underlying40 rfl) rfl ?_
  refine TL.val (Yl.conv Tryz.underlying3 Tryz.underlying167 rfl (wU64 (by omega))) rfl ?_
  refine TL.val (Yl.add (r := (((l ++ data).length : Nat) : Int)) rfl rfl ((wU64 (by omega)).trans (by rw [List.length_append]; omega))) rfl ?_
  refine TL.val (Yl.nilCheckP rfl) rfl ?_
  refine TL.val (Yl.fieldAddr (k := 167) (m := 9) (o := 9) Tryz.underlying169 rfl sz167 rfl rfl) rfl ?_
  refine TL.skp (Skp.store1 (cs' := shaO (shaS l) v (l ++ data).length) sz167 rfl rfl rfl (by repeat (first | exact Foc.head | apply Foc.tail | apply Foc.right)) (Nat.le_of_ble_eq_true rfl) rfl) ?_
  refine TL.next ?_
  refine TC.seq ?_
  refine TC.region ?_
  refine TL.val (Yl.move rfl) rfl ?_
  refine TL.val (Yl.move rfl) rfl ?_
  refine TL.val (Yl.nilCheckP rfl) rfl ?_
  refine TL.val (Yl.fieldAddr (k := 40) (m := 8) (o := 8) Tryz.underlying169 rfl sz40 rfl rfl) rfl ?_
  refine TL.val (Yl.load1 (v := v) Tryz.underlying40 rfl rfl (by repeat (first | exact Foc.head | apply Foc.tail | apply Foc.right)) rfl) rfl ?_
  refine TL.val (Yl.move rfl) rfl ?_
  refine TL.eff (Eff.appB (news := data) (R := (bh, oC (shaO (shaS l) v (l ++ data).length) 169) :: (bp, .cells ⟨bV lp⟩ te fr) :: Fr) Tryz.underlying40 Tryz.underlying40 (.inl ⟨_, rfl⟩) sz5 by5 zr5 rfl rfl hv (fun _ h => Own.mid (A := [(bh, _)]) h) (Src.slB (by repeat (first | exact Foc.head | apply Foc.tail | apply Foc.right)) hd) hdl (by omega)) rfl fun p => ?_
  refine TL.val (Yl.nilCheckP rfl) rfl ?_
  refine TL.val (Yl.fieldAddr (k := 40) (m := 8) (o := 8) Tryz.underlying169 rfl sz40 rfl rfl) rfl ?_
  refine TL.skp (Skp.store1 (v := p.1.1) (cs' := shaO (shaS l) (p.1.1) (l ++ data).length) sz40 rfl rfl (SlB.one p.2) (by repeat (first | exact Foc.head | apply Foc.tail | apply Foc.right)) (Nat.le_of_ble_eq_true rfl) rfl) ?_
  refine TL.next ?_
  refine TC.seq ?_
  refine TC.block ?_
  refine TC.loopI (σ := Nat × Value × HL) (fun p => [(0, pt bh 0), (1, sl bp off m cap)]) (fun p => p.2.2 ++ ((bh, oC (shaO (shaN iv (l ++ data) p.1) p.2.1 (l ++ data).length) 169) :: (bp, .cells ⟨bV lp⟩ te fr) :: Fr)) (fun p => p.1 ≤ (l ++ data).length / 64 ∧ SlB 5 ((l ++ data).drop (64 * p.1)) p.2.1 p.2.2) (fun p => (l ++ data).length / 64 - p.1) (l.length / 64, p.1.1, p.1.2) ⟨rfl, rfl, trivial⟩ (fun _ h => by rw [shaN_app (by omega)]; exact h) ⟨by rw [List.length_append]; show l.length / 64 ≤ _; omega, by show SlB 5 ((l ++ data).drop (64 * (l.length / 64))) _ _; rw [List.drop_append_of_le_length (by omega), Nat.mul_comm]; exact p.2⟩ (fun p hp => ?_)
  obtain ⟨k, v, H1⟩ := p
  obtain ⟨hk, hv⟩ := hp
  dsimp only at hk hv ⊢
  refine TC.seq ?_
  refine TC.seq ?_
  refine TC.region ?_
  refine TL.val (Yl.move rfl) rfl ?_
  refine TL.val (Yl.nilCheckP rfl) rfl ?_
  refine TL.val (Yl.fieldAddr (k := 40) (m := 8) (o := 8) Tryz.underlying169 rfl sz40 rfl rfl) rfl ?_
  refine TL.val (Yl.load1 (v := v) Tryz.underlying40 rfl rfl (by repeat (first | exact Foc.head | apply Foc.tail | apply Foc.right)) rfl) rfl ?_
  refine TL.val (Yl.lenSl hv Tryz.underlying40 rfl) rfl ?_
  refine TL.val (Yl.geq rfl rfl rfl) rfl ?_
  refine TL.next ?_
  refine TC.cond rfl (fun hc30 => ?_) (fun hc30 => ?_)
  · replace hc30 := of_decide_eq_true hc30
    refine TC.skip_next ?_
    refine TC.block ?_
    refine TC.seq ?_
    have hge : 64 ≤ ((l ++ data).drop (64 * k)).length := by omega
    obtain ⟨b2, off2, cap2, l2, rfl, rfl, hb1, hb2, hb3⟩ : ∃ b off cap l', v = sl b off ((l ++ data).drop (64 * k)).length cap ∧ H1 = [(b, oC (bV l') 5)] ∧ ((l ++ data).drop (64 * k)).length ≤ cap ∧ off + cap ≤ l'.length ∧ (l'.drop off).take ((l ++ data).drop (64 * k)).length = (l ++ data).drop (64 * k) := by
      rcases hv with ⟨_, he, _⟩ | h
      · rw [he] at hge; simp at hge
      · exact h
    have hadv : adv off2 cap2 0 1 = off2 := by unfold adv; split <;> simp
    refine TC.region ?_
    refine TL.val (Yl.move rfl) rfl ?_
    refine TL.val (Yl.move rfl) rfl ?_
    refine TL.val (Yl.nilCheckP rfl) rfl ?_
    refine TL.val (Yl.fieldAddr (k := 40) (m := 8) (o := 8) Tryz.underlying169 rfl sz40 rfl rfl) rfl ?_
    refine TL.val (Yl.load1 (v := sl b2 off2 ((l ++ data).drop (64 * k)).length cap2) Tryz.underlying40 rfl rfl (by repeat (first | exact Foc.head | apply Foc.tail | apply Foc.right)) rfl) rfl ?_
    refine TL.val (Yl.slcH (j := 64) Tryz.underlying40 sz5 rfl rfl rfl (by omega)) rfl ?_
    rw [hadv]
    refine TL.call (Cll.func (xs := [_, _]) (vs := [_, _]) Tryz.func180 rfl (by kernel_rfl) ⟨rfl, rfl, trivial⟩) rfl (Gives.pull (.cons (by repeat (first | exact Pull.head | apply Pull.tail)) (.cons (by repeat (first | exact Pull.head | apply Pull.tail)) .nil)) (block_g (shaN iv (l ++ data) k) (sl b2 off2 ((l ++ data).drop (64 * k)).length cap2) (l ++ data).length (blk (l ++ data) k) l2 off2 cap2 (0, 0) (by rw [← drop_blk, ← hb3, List.take_take, Nat.min_eq_left hge]) (blk_length (by rw [List.length_drop] at hge; omega)) bh b2 g _)) fun _ => ?_
    refine TL.next ?_
    refine TC.region ?_
    refine TL.val (Yl.move rfl) rfl ?_
    refine TL.val (Yl.move rfl) rfl ?_
    refine TL.val (Yl.nilCheckP rfl) rfl ?_
    refine TL.val (Yl.fieldAddr (k := 40) (m := 8) (o := 8) Tryz.underlying169 rfl sz40 rfl rfl) rfl ?_
    refine TL.val (Yl.load1 (v := sl b2 off2 ((l ++ data).drop (64 * k)).length cap2) Tryz.underlying40 rfl rfl (by repeat (first | exact Foc.head | apply Foc.tail | apply Foc.right)) rfl) rfl ?_
    refine TL.val (Yl.slcL (i := 64) Tryz.underlying40 sz5 rfl rfl rfl hge) rfl ?_
    refine TL.val (Yl.nilCheckP rfl) rfl ?_
    refine TL.val (Yl.fieldAddr (k := 40) (m := 8) (o := 8) Tryz.underlying169 rfl sz40 rfl rfl) rfl ?_
    refine TL.skp (Skp.store1 (v := sl b2 (adv off2 cap2 64 1) (((l ++ data).drop (64 * k)).length - 64) (cap2 - 64)) (cs' := shaO (comp (shaN iv (l ++ data) k) (blk (l ++ data) k)) (sl b2 (adv off2 cap2 64 1) (((l ++ data).drop (64 * k)).length - 64) (cap2 - 64)) (l ++ data).length) sz40 rfl rfl rfl (by repeat (first | exact Foc.head | apply Foc.tail | apply Foc.right)) (Nat.le_of_ble_eq_true rfl) rfl) ?_
    exact TL.done (Inv.again (k + 1, sl b2 (adv off2 cap2 64 1) (((l ++ data).drop (64 * k)).length - 64) (cap2 - 64), [(b2, oC (bV l2) 5)]) ⟨by show k + 1 ≤ _; rw [List.length_drop] at hge; omega, by show SlB 5 ((l ++ data).drop (64 * (k + 1))) _ _; have := SlB.tail (te := 5) (b := b2) (fr := (0, 0)) hb1 hb2 hb3 64 (by omega); rwa [List.drop_drop] at this⟩ (by show (l ++ data).length / 64 - (k + 1) < (l ++ data).length / 64 - k; rw [List.length_drop] at hge; omega) ⟨rfl, rfl, trivial⟩ (fun w h => Pulls.own (.cons (by repeat (first | exact Pull.head | apply Pull.tail)) .nil) w h))
  · replace hc30 := of_decide_eq_false hc30
    refine TC.exit_next rfl ?_
    refine TC.seq ?_
    obtain rfl : k = (l ++ data).length / 64 := by rw [List.length_drop] at hc30; omega
    refine TC.region ?_
    refine TL.val (Yl.move rfl) rfl ?_
    refine TL.val (Yl.lenL Tryz.underlying40 rfl) rfl ?_
    refine TL.val (Yl.assign rfl) rfl ?_
    refine TL.val (Yl.assign rfl) rfl ?_
    refine TL.next ?_
    exact TC.back2 ⟨(v, H1), by show SlB 5 (rest (l ++ data)) v H1; unfold rest; rw [Nat.mul_comm]; exact hv⟩ rfl rfl rfl rfl (fun _ h => Own.mid (A := H1) (H1 := [(bh, _)]) h)
theorem hexHex_q (xs : List UInt8) (v : Value) (H1 : HL) (hv : SlB 5 xs v H1) (hl : xs.length ≤ 1000000) : Quiet Tryz.prog 38 #[v] H1 (vS (hexB xs)) := by
  refine Quiet.of_gives fun g Fr => ?_
  refine Gives.enter Tryz.func38 rfl Tryz.ntmps38 rfl ?_
  refine TC.seq ?_
  refine TC.region ?_
  refine TL.val (Yl.assign rfl) rfl ?_
  refine TL.next ?_
  refine TC.seq ?_
  refine TC.region ?_
  refine TL.val (Yl.move rfl) rfl ?_
  refine TL.val (Yl.lenSl hv Tryz.underlying40 rfl) rfl ?_
  refine TL.val (Yl.mul rfl rfl (wI (by omega))) rfl ?_
  refine TL.eff (Eff.makeB (i := 0) (j := 2 * xs.length) Tryz.underlying40 sz5 by5 zr5 rfl rfl rfl (by omega) (by omega) (by omega)) rfl fun b9 => ?_
  refine TL.val (Yl.assign rfl) rfl ?_
  refine TL.next ?_
  refine TC.seq ?_
  refine TC.seq ?_
  refine TC.region ?_
  refine TL.val (Yl.move rfl) rfl ?_
  refine TL.val (Yl.lenSl hv Tryz.underlying40 rfl) rfl ?_
  refine TL.val (Yl.move rfl) rfl ?_
  refine TL.next ?_
  refine TC.block ?_
  refine TC.loopI (σ := Nat × Value × HL) (fun p => [(3, p.2.1), (10, v), (11, .int .i64 (xs.length : Int)), (12, .int .i64 (p.1 : Int))]) (fun p => p.2.2 ++ (H1 ++ Fr)) (fun p => p.1 ≤ xs.length ∧ SlB 5 (hexB (xs.take p.1)) p.2.1 p.2.2) (fun p => xs.length - p.1) (0, sl b9 0 0 (2 * xs.length), [(b9, oC (bV (List.replicate (2 * xs.length) 0)) 5)]) ⟨rfl, rfl, rfl, rfl, trivial⟩ (fun _ h => h) ⟨Nat.zero_le _, SlB.mk (Nat.zero_le _) (by simp) (by simp [hexB])⟩ (fun p hp => ?_)
  obtain ⟨k, v3, H3⟩ := p
  obtain ⟨hk, hv3⟩ := hp
  dsimp only at hk hv3 ⊢
  refine TC.seq ?_
  refine TC.region ?_
  refine TL.val (Yl.lss rfl rfl rfl) rfl ?_
  refine TL.next ?_
  refine TC.seq ?_
  refine TC.cond rfl (fun hc13 => ?_) (fun hc13 => ?_)
  · replace hc13 := of_decide_eq_true hc13
    refine TC.skip_next ?_
    refine TC.seq ?_
    refine TC.block ?_
    refine TC.seq ?_
    obtain ⟨c, hc⟩ : ∃ c, xs[k]? = some c := ⟨xs[k]'(by omega), List.getElem?_eq_getElem (by omega)⟩
    have hcl := c.toNat_lt
    have hhl := hexB_length (xs.take k)
    rw [List.length_take] at hhl
    obtain ⟨b2, off2, cap2, l2, rfl, rfl, hb1, hb2, hb3⟩ : ∃ b off cap l', v = sl b off xs.length cap ∧ H1 = [(b, oC (bV l') 5)] ∧ xs.length ≤ cap ∧ off + cap ≤ l'.length ∧ (l'.drop off).take xs.length = xs := by
      rcases hv with ⟨_, he, _⟩ | h
      · rw [he] at hc; simp at hc
      · exact h
    have hg : l2[off2 + k]? = some c := by
      rw [← hb3, List.getElem?_take, if_pos (by omega), List.getElem?_drop] at hc
      exact hc
    refine TC.region ?_
    refine TL.val (Yl.idxAddrS (j := k) (o := off2 + k) Tryz.underlying40 sz5 rfl rfl rfl (by omega) (by omega)) rfl ?_
    refine TL.val (Yl.loadB (off := off2 + k) Tryz.underlying5 rfl rfl (by repeat (first | exact Foc.head | apply Foc.tail | apply Foc.right)) rfl hg) rfl ?_
    refine TL.val (Yl.assign rfl) rfl ?_
    refine TL.next ?_
    refine TC.draws [] ([(b2, oC (bV l2) 5)] ++ Fr) mixed (by kernel_rfl) rfl (fun _ h => h.sub (by repeat (first | exact List.Sublist.refl _ | exact List.sublist_append_right _ _ | refine List.Sublist.cons_cons _ ?_ | refine List.Sublist.cons _ ?_))) ?_
    refine TA.pure 0 rfl (by kernel_rfl) (Yl.move rfl) rfl ?_
    refine TA.pure 1 rfl (by kernel_rfl) (Yl.move rfl) rfl ?_
    refine TA.pure 2 rfl (by kernel_rfl) (Yl.shrI (c := 4) rfl rfl rfl) rfl ?_
    refine TA.pure 3 rfl (by kernel_rfl) (Yl.idxS (a := hexDigits) (j := c.toNat / 16) Tryz.underlying9 rfl rfl (by omega) (hexDig_get (by omega))) rfl ?_
    refine TA.pure 4 rfl (by kernel_rfl) (Yl.move rfl) rfl ?_
    refine TA.pure 5 rfl (by kernel_rfl) (Yl.mask 4 rfl rfl rfl rfl) rfl ?_
    refine TA.pure 6 rfl (by kernel_rfl) (Yl.idxS (a := hexDigits) (j := c.toNat % 16) Tryz.underlying9 rfl rfl (by omega) (hexDig_get (by omega))) rfl ?_
    refine TA.one 7 (by kernel_rfl) ?_
    refine Up.eff rfl rfl (Eff.lits1 [_, _] (vs := bV [hexDig (c.toNat / 16), hexDig (c.toNat % 16)]) Tryz.underlying40 sz5 zr5 rfl ⟨rfl, rfl, trivial⟩ rfl rfl rfl) rfl (fun _ => .inr (fun _ h => h.sub (by repeat (first | exact List.Sublist.refl _ | exact List.sublist_append_right _ _ | refine List.Sublist.cons_cons _ ?_ | refine List.Sublist.cons _ ?_)))) fun b23 => ?_
    refine TA.one 8 (by kernel_rfl) ?_
    refine Up.eff rfl rfl (Eff.appB (news := [hexDig (c.toNat / 16), hexDig (c.toNat % 16)]) (R := _) Tryz.underlying40 Tryz.underlying40 (.inl ⟨_, rfl⟩) sz5 by5 zr5 rfl rfl hv3 (fun _ h => h.sub (.cons _ (.refl _))) (Src.slB .head rfl) rfl (by show _ + 2 ≤ _; omega)) rfl (fun _ => .inr (fun _ h => h.sub (by repeat (first | exact List.Sublist.refl _ | exact List.sublist_append_right _ _ | refine List.Sublist.cons_cons _ ?_ | refine List.Sublist.cons _ ?_)))) fun p => ?_
    refine TA.pure 9 rfl (by kernel_rfl) (Yl.assign rfl) rfl ?_
    refine TA.next (by kernel_rfl) ?_
    refine TC.region ?_
    refine TL.val (Yl.add rfl rfl (wI (by omega))) rfl ?_
    refine TL.val (Yl.move rfl) rfl ?_
    exact TL.done (Inv.again (k + 1, p.1.1, p.1.2) ⟨by show k + 1 ≤ _; omega, by show SlB 5 (hexB (xs.take (k + 1))) _ _; rw [hexB_snoc hc]; exact p.2⟩ (show xs.length - (k + 1) < xs.length - k by omega) ⟨rfl, rfl, rfl, rfl, trivial⟩ (fun _ h => h))
  · replace hc13 := of_decide_eq_false hc13
    refine TC.exit_next rfl ?_
    refine TC.seq ?_
    obtain rfl : k = xs.length := by omega
    rw [List.take_length] at hv3
    refine TC.region ?_
    refine TL.val (Yl.move rfl) rfl ?_
    refine TL.val (SlB.read hv3 Tryz.underlying40 Tryz.underlying5 Tryz.underlying9 rfl) rfl ?_
    refine TL.val (Yl.assign rfl) rfl ?_
    refine TL.next ?_
    exact TC.back1 () rfl rfl (fun _ h => h.sub (List.sublist_append_right _ _))
end Go.Proofs.YtlhncphipfkkjaaGreatDoor

namespace Go.Proofs.YtlhncphipfkkjaaGreatDoor
open Go
theorem shaO_one {V : V8} {v : Value} {n : Nat} (h : v.oneCell' = true) : (shaO V v n).all Value.oneCell' = true := by
  cases v <;> simp_all [shaO, v8C, Value.oneCell']
set_option maxHeartbeats 1000000 in
theorem sumSha_g (l xs : List UInt8) (q : Held l) (v1 : Value) (H2 : HL) (hv1 : SlB 5 xs v1 H2) (hl : l.length ≤ 1099511627776) (hxs : xs.length ≤ 1000) (bh : Nat) (g : World) (Fr : HL) :
    Gives Tryz.prog 178 #[pt bh 0, v1] g (ShaAt bh l q.1 ++ (H2 ++ Fr)) { p : Value × HL // SlB 5 (xs ++ dig l) p.1 p.2 } (fun p => p.1.1) (fun p => p.1.2 ++ (ShaAt bh l q.1 ++ Fr)) := by
  refine Gives.enter Tryz.func178 rfl Tryz.ntmps178 rfl ?_
  obtain ⟨⟨v, H1⟩, hv⟩ := q
  dsimp only at hv ⊢
  have hrl : (rest l).length = l.length % 64 := by unfold rest; rw [List.length_drop]; omega
  refine TC.seq ?_
  refine TC.region ?_
  refine TL.val (Yl.assign rfl) rfl ?_
  refine TL.next ?_
  refine TC.seq ?_
  refine TC.region ?_
  refine TL.val (Yl.move rfl) rfl ?_
  refine TL.val (Yl.nilCheckP rfl) rfl ?_
  refine TL.val (Yl.loadA (vs := shaO (shaS l) v l.length) Tryz.underlying169 rfl sz169 rfl (by repeat (first | exact Foc.head | apply Foc.tail | apply Foc.right)) rfl) rfl ?_
  refine TL.eff (Eff.alloc zr169 rfl) rfl fun b5 => ?_
  refine TL.skp (Skp.storeA (vs := shaO (shaS l) v l.length) (cs' := shaO (shaS l) v l.length) sz169 rfl rfl (shaO_one hv.one) (by repeat (first | exact Foc.head | apply Foc.tail | apply Foc.right)) (Nat.le_of_ble_eq_true rfl) (lay_all (by rfl))) ?_
  refine TL.next ?_
  refine TC.seq ?_
  refine TC.region ?_
  refine TL.val (Yl.move rfl) rfl ?_
  refine TL.val (Yl.nilCheckP rfl) rfl ?_
  refine TL.val (Yl.fieldAddr (k := 40) (m := 8) (o := 8) Tryz.underlying169 rfl sz40 rfl rfl) rfl ?_
  refine TL.val (Yl.load1 (v := v) Tryz.underlying40 rfl rfl (by repeat (first | exact Foc.head | apply Foc.tail | apply Foc.right)) rfl) rfl ?_
  refine TL.eff (Eff.appB (news := rest l) (R := _) Tryz.underlying40 Tryz.underlying40 (.inl ⟨_, rfl⟩) sz5 by5 zr5 rfl rfl SlB.nil (fun _ h => h) (SlB.src hv (fun _ h => Own.mid (A := [(b5, _), (bh, _)]) h)) rfl (by show 0 + _ ≤ _; omega)) rfl fun p => ?_
  refine TL.val (Yl.fieldAddr (k := 40) (m := 8) (o := 8) Tryz.underlying169 rfl sz40 rfl rfl) rfl ?_
  refine TL.skp (Skp.store1 (v := p.1.1) (cs' := shaO (shaS l) (p.1.1) l.length) sz40 rfl rfl (SlB.one p.2) (by repeat (first | exact Foc.head | apply Foc.tail | apply Foc.right)) (Nat.le_of_ble_eq_true rfl) rfl) ?_
  refine TL.next ?_
  refine TC.seq ?_
  refine TC.region ?_
  refine TL.val (Yl.fieldAddr (k := 167) (m := 9) (o := 9) Tryz.underlying169 rfl sz167 rfl rfl) rfl ?_
  refine TL.val (Yl.load1 (v := .int .u64 (l.length : Int)) Tryz.underlying167 rfl rfl (by repeat (first | exact Foc.head | apply Foc.tail | apply Foc.right)) rfl) rfl ?_
  refine TL.val (Yl.mul rfl rfl (wU64 (by omega))) rfl ?_
  refine TL.val (Yl.assign rfl) rfl ?_
  refine TL.next ?_
  refine TC.seq ?_
  refine TC.region ?_
  refine TL.val (Yl.fieldAddr (k := 40) (m := 8) (o := 8) Tryz.underlying169 rfl sz40 rfl rfl) rfl ?_
  refine TL.val (Yl.load1 (v := p.1.1) Tryz.underlying40 rfl rfl (by repeat (first | exact Foc.head | apply Foc.tail | apply Foc.right)) rfl) rfl ?_
  refine TL.eff (Eff.lits1 [_] (vs := bV [128]) Tryz.underlying40 sz5 zr5 rfl ⟨rfl, trivial⟩ rfl rfl rfl) rfl fun b24 => ?_
  refine TL.eff (Eff.appB (news := [128]) (R := _) Tryz.underlying40 Tryz.underlying40 (.inl ⟨_, rfl⟩) sz5 by5 zr5 rfl rfl p.2 (fun _ h => h.sub (.cons _ (.refl _))) (Src.slB .head rfl) rfl (by show (rest l).length + 1 ≤ _; omega)) rfl fun p2 => ?_
  refine TL.val (Yl.fieldAddr (k := 40) (m := 8) (o := 8) Tryz.underlying169 rfl sz40 rfl rfl) rfl ?_
  refine TL.skp (Skp.store1 (v := p2.1.1) (cs' := shaO (shaS l) (p2.1.1) l.length) sz40 rfl rfl (SlB.one p2.2) (by repeat (first | exact Foc.head | apply Foc.tail | apply Foc.right)) (Nat.le_of_ble_eq_true rfl) rfl) ?_
  refine TL.next ?_
  refine TC.seq ?_
  refine TC.block ?_
  refine TC.loopI (σ := Nat × Value × HL) (fun p => [(1, v1), (5, pt b5 0), (6, .int .u64 ((l.length : Int) * 8))]) (fun p => p.2.2 ++ ((b5, oC (shaO (shaS l) p.2.1 l.length) 169) :: (bh, oC (shaO (shaS l) v l.length) 169) :: (H1 ++ (H2 ++ Fr)))) (fun p => p.1 ≤ tailN l.length ∧ SlB 5 (tailA l p.1) p.2.1 p.2.2) (fun p => tailN l.length - p.1) (0, p2.1.1, p2.1.2) ⟨rfl, rfl, rfl, trivial⟩ (fun _ h => h) ⟨Nat.zero_le _, by have := p2.2; show SlB 5 (tailA l 0) _ _; unfold tailA; rw [List.replicate_zero, List.append_nil]; exact this⟩ (fun p hp => ?_)
  obtain ⟨k, vh, Hh⟩ := p
  obtain ⟨hk, hvh⟩ := hp
  dsimp only at hk hvh ⊢
  refine TC.seq ?_
  refine TC.seq ?_
  refine TC.region ?_
  refine TL.val (Yl.fieldAddr (k := 40) (m := 8) (o := 8) Tryz.underlying169 rfl sz40 rfl rfl) rfl ?_
  refine TL.val (Yl.load1 (v := vh) Tryz.underlying40 rfl rfl (by repeat (first | exact Foc.head | apply Foc.tail | apply Foc.right)) rfl) rfl ?_
  refine TL.val (Yl.lenSl hvh Tryz.underlying40 rfl) rfl ?_
  refine TL.val (Yl.rem rfl rfl (by omega) (by omega) rfl) rfl ?_
  refine TL.val (Yl.neq rfl rfl rfl) rfl ?_
  refine TL.next ?_
  refine TC.cond rfl (fun hc31 => ?_) (fun hc31 => ?_)
  · replace hc31 := of_decide_eq_true hc31
    refine TC.skip_next ?_
    refine TC.block ?_
    have hk1 : k + 1 ≤ tailN l.length := by
      rw [tailA_length] at hc31
      unfold tailN at *
      omega
    refine TC.region ?_
    refine TL.val (Yl.fieldAddr (k := 40) (m := 8) (o := 8) Tryz.underlying169 rfl sz40 rfl rfl) rfl ?_
    refine TL.val (Yl.load1 (v := vh) Tryz.underlying40 rfl rfl (by repeat (first | exact Foc.head | apply Foc.tail | apply Foc.right)) rfl) rfl ?_
    refine TL.eff (Eff.lits1 [_] (vs := bV [0]) Tryz.underlying40 sz5 zr5 rfl ⟨rfl, trivial⟩ rfl rfl rfl) rfl fun b34 => ?_
    refine TL.eff (Eff.appB (news := [0]) (R := _) Tryz.underlying40 Tryz.underlying40 (.inl ⟨_, rfl⟩) sz5 by5 zr5 rfl rfl hvh (fun _ h => h.sub (.cons _ (.refl _))) (Src.slB .head rfl) rfl (by rw [tailA_length]; unfold tailN at *; show _ + 1 ≤ _; omega)) rfl fun p3 => ?_
    refine TL.val (Yl.fieldAddr (k := 40) (m := 8) (o := 8) Tryz.underlying169 rfl sz40 rfl rfl) rfl ?_
    refine TL.skp (Skp.store1 (v := p3.1.1) (cs' := shaO (shaS l) (p3.1.1) l.length) sz40 rfl rfl (SlB.one p3.2) (by repeat (first | exact Foc.head | apply Foc.tail | apply Foc.right)) (Nat.le_of_ble_eq_true rfl) rfl) ?_
    exact TL.done (Inv.again (k + 1, p3.1.1, p3.1.2) ⟨hk1, by show SlB 5 (tailA l (k + 1)) _ _; rw [← tailA_succ]; exact p3.2⟩ (by show tailN l.length - (k + 1) < tailN l.length - k; omega) ⟨rfl, rfl, rfl, trivial⟩ (fun _ h => h))
  · replace hc31 := of_decide_eq_false hc31
    refine TC.exit_next rfl ?_
    refine TC.seq ?_
    refine TC.seq ?_
    obtain rfl : k = tailN l.length := by
      rw [tailA_length] at hc31
      unfold tailN at *
      omega
    refine TC.region ?_
    refine TL.val (Yl.assign rfl) rfl ?_
    refine TL.next ?_
    refine TC.block ?_
    refine TC.loopI (σ := Nat × Value × HL) (fun p => [(1, v1), (5, pt b5 0), (6, .int .u64 ((l.length : Int) * 8)), (7, .int .i64 (56 - 8 * (p.1 : Int)))]) (fun p => p.2.2 ++ ((b5, oC (shaO (shaS l) p.2.1 l.length) 169) :: (bh, oC (shaO (shaS l) v l.length) 169) :: (H1 ++ (H2 ++ Fr)))) (fun p => p.1 ≤ 8 ∧ SlB 5 (tailB l p.1) p.2.1 p.2.2) (fun p => 8 - p.1) (0, vh, Hh) ⟨rfl, rfl, rfl, rfl, trivial⟩ (fun _ h => h) ⟨Nat.zero_le _, by show SlB 5 (tailB l 0) _ _; unfold tailB be8; rw [List.append_nil]; exact hvh⟩ (fun p hp => ?_)
    obtain ⟨k, vh, Hh⟩ := p
    obtain ⟨hk, hvh⟩ := hp
    dsimp only at hk hvh ⊢
    refine TC.seq ?_
    refine TC.seq ?_
    refine TC.region ?_
    refine TL.val (Yl.move rfl) rfl ?_
    refine TL.val (Yl.geq rfl rfl rfl) rfl ?_
    refine TL.next ?_
    refine TC.cond rfl (fun hc38 => ?_) (fun hc38 => ?_)
    · replace hc38 := of_decide_eq_true hc38
      refine TC.skip_next ?_
      refine TC.seq ?_
      refine TC.block ?_
      refine TC.draws [9] ((b5, oC (shaO (shaS l) vh l.length) 169) :: (bh, oC (shaO (shaS l) v l.length) 169) :: (H1 ++ (H2 ++ Fr))) mixed (by kernel_rfl) rfl (fun _ h => h.sub (by repeat (first | exact List.Sublist.refl _ | exact List.sublist_append_right _ _ | refine List.Sublist.cons_cons _ ?_ | refine List.Sublist.cons _ ?_))) ?_
      refine TA.pure 0 rfl (by kernel_rfl) (Yl.fieldAddr (k := 40) (m := 8) (o := 8) Tryz.underlying169 rfl sz40 rfl rfl) rfl ?_
      refine TA.load 1 rfl (by kernel_rfl) (Yl.load1 (v := vh) Tryz.underlying40 rfl rfl (by repeat (first | exact Foc.head | apply Foc.tail | apply Foc.right)) rfl) rfl ?_
      refine TA.pure 2 rfl (by kernel_rfl) (Yl.move rfl) rfl ?_
      refine TA.pure 3 rfl (by kernel_rfl) (Yl.move rfl) rfl ?_
      refine TA.pure 4 rfl (by kernel_rfl) (Yl.shrI (c := 8 * (7 - k)) rfl (congrArg (fun z => some (Value.int .i64 z)) (by omega)) (Nat.ble_eq_true_of_le (show 8 * (7 - k) ≤ 64 by omega))) rfl ?_
      refine TA.pure 5 rfl (by kernel_rfl) (Yl.conv Tryz.underlying167 Tryz.underlying5 rfl (w8 _)) rfl ?_
      refine TA.one 6 (by kernel_rfl) ?_
      refine Up.eff rfl rfl (Eff.lits1 [_] (vs := bV [toU8 (((l.length : Int) * 8) / 2 ^ (8 * (7 - k)))]) Tryz.underlying40 sz5 zr5 rfl ⟨rfl, trivial⟩ rfl rfl rfl) rfl (fun _ => .inr (fun _ h => h.sub (by repeat (first | exact List.Sublist.refl _ | exact List.sublist_append_right _ _ | refine List.Sublist.cons_cons _ ?_ | refine List.Sublist.cons _ ?_)))) fun b47 => ?_
      refine TA.one 7 (by kernel_rfl) ?_
      refine Up.eff rfl rfl (Eff.appB (news := [toU8 (((l.length : Int) * 8) / 2 ^ (8 * (7 - k)))]) (R := _) Tryz.underlying40 Tryz.underlying40 (.inl ⟨_, rfl⟩) sz5 by5 zr5 rfl rfl hvh (fun _ h => h.sub (.cons _ (.refl _))) (Src.slB .head rfl) rfl (by rw [tailB_length]; unfold tailN; show _ + 1 ≤ _; omega)) rfl (fun _ => .inr (fun _ h => h.sub (by repeat (first | exact List.Sublist.refl _ | exact List.sublist_append_right _ _ | refine List.Sublist.cons_cons _ ?_ | refine List.Sublist.cons _ ?_)))) fun p3 => ?_
      refine TA.pure 8 rfl (by kernel_rfl) (Yl.fieldAddr (k := 40) (m := 8) (o := 8) Tryz.underlying169 rfl sz40 rfl rfl) rfl ?_
      refine TA.one 9 (by kernel_rfl) ?_
      refine Up.skp rfl rfl (Skp.store1 (v := p3.1.1) (cs' := shaO (shaS l) (p3.1.1) l.length) sz40 rfl rfl (SlB.one p3.2) (by repeat (first | exact Foc.head | apply Foc.tail | apply Foc.right)) (Nat.le_of_ble_eq_true rfl) rfl) (.inl rfl) ?_
      refine TA.next (by kernel_rfl) ?_
      refine TC.region ?_
      refine TL.val (Yl.move rfl) rfl ?_
      refine TL.val (Yl.sub rfl rfl (wI (by omega))) rfl ?_
      refine TL.val (Yl.assign rfl) rfl ?_
      exact TL.done (Inv.again (k + 1, p3.1.1, p3.1.2) ⟨by show k + 1 ≤ 8; omega, by show SlB 5 (tailB l (k + 1)) _ _; rw [← tailB_succ]; exact p3.2⟩ (by show 8 - (k + 1) < 8 - k; omega) ⟨rfl, rfl, rfl, (congrArg (fun z => some (Value.int .i64 z)) (by show _ = 56 - 8 * ((k + 1 : Nat) : Int); omega)), trivial⟩ (fun _ h => h))
    · replace hc38 := of_decide_eq_false hc38
      refine TC.exit_next rfl ?_
      refine TC.seq ?_
      refine TC.block ?_
      obtain rfl : k = 8 := by omega
      refine TC.loopI (σ := Nat × Value × HL) (fun p => [(1, v1), (5, pt b5 0)]) (fun p => p.2.2 ++ ((b5, oC (shaO (shaN (shaS l) (tailB l 8) p.1) p.2.1 l.length) 169) :: (bh, oC (shaO (shaS l) v l.length) 169) :: (H1 ++ (H2 ++ Fr)))) (fun p => p.1 ≤ (tailB l 8).length / 64 ∧ SlB 5 ((tailB l 8).drop (64 * p.1)) p.2.1 p.2.2) (fun p => (tailB l 8).length / 64 - p.1) (0, vh, Hh) ⟨rfl, rfl, trivial⟩ (fun _ h => h) ⟨Nat.zero_le _, hvh⟩ (fun p hp => ?_)
      have ht := tail_64 l
      have ht2 : (tailB l 8).length ≤ 200 := by rw [tailB_length]; unfold tailN; omega
      obtain ⟨k, vh, Hh⟩ := p
      obtain ⟨hk, hvh⟩ := hp
      dsimp only at hk hvh ⊢
      have hdl : ((tailB l 8).drop (64 * k)).length = (tailB l 8).length - 64 * k := List.length_drop
      refine TC.seq ?_
      refine TC.seq ?_
      
      refine TC.region ?_
      refine TL.val (Yl.fieldAddr (k := 40) (m := 8) (o := 8) Tryz.underlying169 rfl sz40 rfl rfl) rfl ?_
      refine TL.val (Yl.load1 (v := vh) Tryz.underlying40 rfl rfl (by repeat (first | exact Foc.head | apply Foc.tail | apply Foc.right)) rfl) rfl ?_
      refine TL.val (Yl.lenSl hvh Tryz.underlying40 rfl) rfl ?_
      refine TL.val (Yl.gtr rfl rfl rfl) rfl ?_
      refine TL.next ?_
      refine TC.cond rfl (fun hc53 => ?_) (fun hc53 => ?_)
      · replace hc53 := of_decide_eq_true hc53
        refine TC.skip_next ?_
        refine TC.block ?_
        refine TC.seq ?_
        have hge : 64 ≤ ((tailB l 8).drop (64 * k)).length := by omega
        obtain ⟨b2, off2, cap2, l2, rfl, rfl, hb1, hb2, hb3⟩ : ∃ b off cap l', vh = sl b off ((tailB l 8).drop (64 * k)).length cap ∧ Hh = [(b, oC (bV l') 5)] ∧ ((tailB l 8).drop (64 * k)).length ≤ cap ∧ off + cap ≤ l'.length ∧ (l'.drop off).take ((tailB l 8).drop (64 * k)).length = (tailB l 8).drop (64 * k) := by
          rcases hvh with ⟨_, he, _⟩ | h
          · rw [he] at hge; simp at hge
          · exact h
        have hadv : adv off2 cap2 0 1 = off2 := by unfold adv; split <;> simp
        refine TC.region ?_
        refine TL.val (Yl.fieldAddr (k := 40) (m := 8) (o := 8) Tryz.underlying169 rfl sz40 rfl rfl) rfl ?_
        refine TL.val (Yl.load1 (v := sl b2 off2 ((tailB l 8).drop (64 * k)).length cap2) Tryz.underlying40 rfl rfl (by repeat (first | exact Foc.head | apply Foc.tail | apply Foc.right)) rfl) rfl ?_
        refine TL.val (Yl.slcH (j := 64) Tryz.underlying40 sz5 rfl rfl rfl (by omega)) rfl ?_
        rw [hadv]
        refine TL.call (Cll.func (xs := [_, _]) (vs := [_, _]) Tryz.func180 rfl (by kernel_rfl) ⟨rfl, rfl, trivial⟩) rfl (Gives.pull (.cons (by repeat (first | exact Pull.head | apply Pull.tail)) (.cons (by repeat (first | exact Pull.head | apply Pull.tail)) .nil)) (block_g (shaN (shaS l) (tailB l 8) k) (sl b2 off2 ((tailB l 8).drop (64 * k)).length cap2) l.length (blk (tailB l 8) k) l2 off2 cap2 (0, 0) (by rw [← drop_blk, ← hb3, List.take_take, Nat.min_eq_left hge]) (blk_length (by omega)) b5 b2 g _)) fun _ => ?_
        refine TL.next ?_
        refine TC.region ?_
        refine TL.val (Yl.fieldAddr (k := 40) (m := 8) (o := 8) Tryz.underlying169 rfl sz40 rfl rfl) rfl ?_
        refine TL.val (Yl.load1 (v := sl b2 off2 ((tailB l 8).drop (64 * k)).length cap2) Tryz.underlying40 rfl rfl (by repeat (first | exact Foc.head | apply Foc.tail | apply Foc.right)) rfl) rfl ?_
        refine TL.val (Yl.slcL (i := 64) Tryz.underlying40 sz5 rfl rfl rfl hge) rfl ?_
        refine TL.val (Yl.fieldAddr (k := 40) (m := 8) (o := 8) Tryz.underlying169 rfl sz40 rfl rfl) rfl ?_
        refine TL.skp (Skp.store1 (v := sl b2 (adv off2 cap2 64 1) (((tailB l 8).drop (64 * k)).length - 64) (cap2 - 64)) (cs' := shaO (comp (shaN (shaS l) (tailB l 8) k) (blk (tailB l 8) k)) (sl b2 (adv off2 cap2 64 1) (((tailB l 8).drop (64 * k)).length - 64) (cap2 - 64)) l.length) sz40 rfl rfl rfl (by repeat (first | exact Foc.head | apply Foc.tail | apply Foc.right)) (Nat.le_of_ble_eq_true rfl) rfl) ?_
        exact TL.done (Inv.again (k + 1, sl b2 (adv off2 cap2 64 1) (((tailB l 8).drop (64 * k)).length - 64) (cap2 - 64), [(b2, oC (bV l2) 5)]) ⟨by show k + 1 ≤ _; rw [List.length_drop] at hge; omega, by show SlB 5 ((tailB l 8).drop (64 * (k + 1))) _ _; have := SlB.tail (te := 5) (b := b2) (fr := (0, 0)) hb1 hb2 hb3 64 (by omega); rwa [List.drop_drop] at this⟩ (by show (tailB l 8).length / 64 - (k + 1) < (tailB l 8).length / 64 - k; rw [List.length_drop] at hge; omega) ⟨rfl, rfl, trivial⟩ (fun w h => Pulls.own (.cons (by repeat (first | exact Pull.head | apply Pull.tail)) .nil) w h))
      · replace hc53 := of_decide_eq_false hc53
        refine TC.exit_next rfl ?_
        refine TC.seq ?_
        refine TC.seq ?_
        obtain rfl : k = (tailB l 8).length / 64 := by omega
        refine TC.region ?_
        refine TL.val (Yl.fieldAddr (k := 46) (m := 0) (o := 0) Tryz.underlying169 rfl sz46 rfl rfl) rfl ?_
        refine TL.val (Yl.loadA (vs := wV (sumV l).list) Tryz.underlying46 rfl sz46 rfl (by repeat (first | exact Foc.head | apply Foc.tail | apply Foc.right)) rfl) rfl ?_
        refine TL.val (Yl.move rfl) rfl ?_
        refine TL.next ?_
        refine TC.block ?_
        refine TC.loopI (σ := Nat × Value × HL) (fun p => [(1, p.2.1), (63, .agg ⟨wV (sumV l).list⟩), (64, .int .i64 (p.1 : Int))]) (fun p => p.2.2 ++ ((bh, oC (shaO (shaS l) v l.length) 169) :: H1 ++ Fr)) (fun p => p.1 ≤ 8 ∧ SlB 5 (xs ++ digL (sumV l).list p.1) p.2.1 p.2.2) (fun p => 8 - p.1) (0, v1, H2) ⟨rfl, rfl, rfl, trivial⟩ (fun _ h => Own.mid (A := (bh, _) :: H1) (h.sub (List.Sublist.trans (.cons _ (.refl _)) (List.sublist_append_right _ _)))) ⟨Nat.zero_le _, by show SlB 5 (xs ++ []) _ _; rw [List.append_nil]; exact hv1⟩ (fun p hp => ?_)
        obtain ⟨k, vh, Hh⟩ := p
        obtain ⟨hk, hvh⟩ := hp
        dsimp only at hk hvh ⊢
        refine TC.seq ?_
        refine TC.region ?_
        refine TL.val (Yl.lss rfl rfl rfl) rfl ?_
        refine TL.next ?_
        refine TC.seq ?_
        refine TC.cond rfl (fun hc65 => ?_) (fun hc65 => ?_)
        · replace hc65 := of_decide_eq_true hc65
          refine TC.skip_next ?_
          refine TC.seq ?_
          refine TC.block ?_
          refine TC.seq ?_
          refine TC.region ?_
          refine TL.val (Yl.idxA (j := k) Tryz.underlying46 Tryz.underlying42 rfl sz42 rfl rfl rfl (by omega) (wV_get (l := (sumV l).list) (show k < 8 by omega))) rfl ?_
          refine TL.val (Yl.assign rfl) rfl ?_
          refine TL.next ?_
          refine TC.region ?_
          refine TL.val (Yl.move rfl) rfl ?_
          refine TL.val (Yl.move rfl) rfl ?_
          refine TL.val (Yl.shr32 (c := 24) rfl rfl) rfl ?_
          refine TL.val (Yl.conv Tryz.underlying42 Tryz.underlying5 rfl (w8_u32 _)) rfl ?_
          refine TL.val (Yl.move rfl) rfl ?_
          refine TL.val (Yl.shr32 (c := 16) rfl rfl) rfl ?_
          refine TL.val (Yl.conv Tryz.underlying42 Tryz.underlying5 rfl (w8_u32 _)) rfl ?_
          refine TL.val (Yl.move rfl) rfl ?_
          refine TL.val (Yl.shr32 (c := 8) rfl rfl) rfl ?_
          refine TL.val (Yl.conv Tryz.underlying42 Tryz.underlying5 rfl (w8_u32 _)) rfl ?_
          refine TL.val (Yl.move rfl) rfl ?_
          refine TL.val (Yl.conv Tryz.underlying42 Tryz.underlying5 rfl (w8_u32 _)) rfl ?_
          refine TL.eff (Eff.lits1 [_, _, _, _] (vs := bV (be4 ((sumV l).list.getD k 0))) Tryz.underlying40 sz5 zr5 rfl ⟨rfl, rfl, rfl, rfl, trivial⟩ rfl rfl rfl) rfl fun b79 => ?_
          refine TL.eff (Eff.appB (news := (be4 ((sumV l).list.getD k 0))) (R := _) Tryz.underlying40 Tryz.underlying40 (.inl ⟨_, rfl⟩) sz5 by5 zr5 rfl rfl hvh (fun _ h => h.sub (.cons _ (.refl _))) (Src.slB (news := (be4 ((sumV l).list.getD k 0))) .head rfl) rfl (by rw [List.length_append, digL_length]; show _ + 4 ≤ _; omega)) rfl fun p3 => ?_
          refine TL.val (Yl.assign rfl) rfl ?_
          refine TL.next ?_
          refine TC.region ?_
          refine TL.val (Yl.add rfl rfl (wI (by omega))) rfl ?_
          refine TL.val (Yl.move rfl) rfl ?_
          exact TL.done (Inv.again (k + 1, p3.1.1, p3.1.2) ⟨by show k + 1 ≤ 8; omega, by show SlB 5 (xs ++ digL (sumV l).list (k + 1)) _ _; rw [digL, ← List.append_assoc]; exact p3.2⟩ (by show 8 - (k + 1) < 8 - k; omega) ⟨rfl, rfl, rfl, trivial⟩ (fun _ h => h))
        · replace hc65 := of_decide_eq_false hc65
          refine TC.exit_next rfl ?_
          refine TC.seq ?_
          obtain rfl : k = 8 := by omega
          refine TC.region ?_
          refine TL.val (Yl.move rfl) rfl ?_
          refine TL.val (Yl.assign rfl) rfl ?_
          refine TL.next ?_
          exact TC.back1 ⟨(vh, Hh), hvh⟩ rfl rfl (fun _ h => h)
end Go.Proofs.YtlhncphipfkkjaaGreatDoor

namespace Go.Proofs.YtlhncphipfkkjaaGreatDoor
open Go
/-- the error at the end -/
def eofV (a : Addr) : Value := .iface 94 (.pointer (some a))
def eofB (a : Addr) : Nat × Obj := (0, oC [eofV a] 58)
/-- a layer as it is said to be -/
def rdN (n i m : Nat) : Nat := Nat.min (n - i) m
theorem rdN_l (n i m : Nat) : rdN n i m ≤ n - i := Nat.min_le_left _ _
theorem rdN_r (n i m : Nat) : rdN n i m ≤ m := Nat.min_le_right _ _
def saidL (dg df : List UInt8) (n : Nat) (m z d : List UInt8) : List Value := [vS algB, vS dg, vS algB, vS df, .int .i64 (n : Int), vS m, vS z, vS d]
def srd (s : List UInt8) (i : Nat) : Obj := oC [vS s, .int .i64 (i : Int), .int .i64 (-1)] 284
def clV (b : Nat) : Value := .iface 281 (.agg ⟨[.iface 278 (pt b 0)]⟩)
theorem m281Read (b : Nat) : MethodIs Tryz.prog 281 (.agg ⟨[.iface 278 (pt b 0)]⟩) "Read" 192 (pt b 0) := fun w => by kernel_rfl
theorem m281Close (v : Value) : MethodIs Tryz.prog 281 v "Close" 196 v := fun w => by kernel_rfl
theorem m281WriteTo (v : Value) : MethodIs Tryz.prog 281 v "WriteTo" 197 v := fun w => by kernel_rfl
theorem m278WriteTo (v : Value) : MethodIs Tryz.prog 278 v "WriteTo" 194 v := fun w => by kernel_rfl
theorem m56Compressed (v : Value) : MethodIs Tryz.prog 56 v "Compressed" 122 v := fun w => by kernel_rfl
theorem m56DiffID (v : Value) : MethodIs Tryz.prog 56 v "DiffID" 123 v := fun w => by kernel_rfl
theorem m56Digest (v : Value) : MethodIs Tryz.prog 56 v "Digest" 124 v := fun w => by kernel_rfl
theorem m56Size (v : Value) : MethodIs Tryz.prog 56 v "Size" 125 v := fun w => by kernel_rfl
theorem m56Uncompressed (v : Value) : MethodIs Tryz.prog 56 v "Uncompressed" 126 v := fun w => by kernel_rfl
theorem m166Write (v : Value) : MethodIs Tryz.prog 166 v "Write" 179 v := fun w => by kernel_rfl
theorem m166Sum (v : Value) : MethodIs Tryz.prog 166 v "Sum" 178 v := fun w => by kernel_rfl
theorem m166Size (v : Value) : MethodIs Tryz.prog 166 v "Size" 177 v := fun w => by kernel_rfl
theorem close_q (b : Nat) : Quiet Tryz.prog 196 #[.agg ⟨[.iface 278 (pt b 0)]⟩] [] .nilIface := by
  refine Quiet.of_gives fun g Fr => ?_
  refine Gives.enter Tryz.func196 rfl Tryz.ntmps196 rfl ?_
  refine TC.seq ?_
  refine TC.region ?_
  refine TL.eff (Eff.box (v := .agg ⟨[.iface 278 (pt b 0)]⟩) rfl rfl) rfl fun b1 => ?_
  refine TL.val (Yl.assign rfl) rfl ?_
  refine TL.next ?_
  refine TC.seq ?_
  refine TC.region ?_
  refine TL.val (Yl.assign rfl) rfl ?_
  refine TL.next ?_
  exact TC.back1 () rfl rfl (fun _ h => h.sub (by repeat (first | exact List.Sublist.refl _ | exact List.sublist_append_right _ _ | refine List.Sublist.cons_cons _ ?_ | refine List.Sublist.cons _ ?_)))
theorem digest_q (dg df m z d : List UInt8) (n : Nat) : Quiet Tryz.prog 124 #[.agg ⟨saidL dg df n m z d⟩] [] (.tuple #[.agg ⟨hashV dg⟩, .nilIface]) := by
  refine Quiet.of_gives fun g Fr => ?_
  refine Gives.enter Tryz.func124 rfl Tryz.ntmps124 rfl ?_
  refine TC.seq ?_
  refine TC.region ?_
  refine TL.eff (Eff.box (v := .agg ⟨saidL dg df n m z d⟩) rfl rfl) rfl fun b1 => ?_
  refine TL.eff (Eff.alloc zr53 rfl) rfl fun b2 => ?_
  refine TL.val (Yl.assign rfl) rfl ?_
  refine TL.next ?_
  refine TC.seq ?_
  refine TC.region ?_
  refine TL.val (Yl.fieldAddr (k := 53) (m := 0) (o := 0) Tryz.underlying56 rfl sz53 rfl rfl) rfl ?_
  refine TL.val (Yl.loadA (vs := hashV dg) Tryz.underlying53 rfl sz53 rfl (by repeat (first | exact Foc.head | apply Foc.tail | apply Foc.right)) rfl) rfl ?_
  refine TL.skp (Skp.storeA (vs := hashV dg) sz53 rfl rfl rfl (by repeat (first | exact Foc.head | apply Foc.tail | apply Foc.right)) (Nat.le_of_ble_eq_true rfl) rfl) ?_
  refine TL.val (Yl.assign rfl) rfl ?_
  refine TL.next ?_
  exact TC.backC1 () rfl rfl rfl Tryz.underlying53 rfl (vs := hashV dg) sz53 (by repeat (first | exact Foc.head | apply Foc.tail | apply Foc.right)) rfl rfl (fun _ h => h.sub (by repeat (first | exact List.Sublist.refl _ | exact List.sublist_append_right _ _ | refine List.Sublist.cons_cons _ ?_ | refine List.Sublist.cons _ ?_)))
theorem diffid_q (dg df m z d : List UInt8) (n : Nat) : Quiet Tryz.prog 123 #[.agg ⟨saidL dg df n m z d⟩] [] (.tuple #[.agg ⟨hashV df⟩, .nilIface]) := by
  refine Quiet.of_gives fun g Fr => ?_
  refine Gives.enter Tryz.func123 rfl Tryz.ntmps123 rfl ?_
  refine TC.seq ?_
  refine TC.region ?_
  refine TL.eff (Eff.box (v := .agg ⟨saidL dg df n m z d⟩) rfl rfl) rfl fun b1 => ?_
  refine TL.eff (Eff.alloc zr53 rfl) rfl fun b2 => ?_
  refine TL.val (Yl.assign rfl) rfl ?_
  refine TL.next ?_
  refine TC.seq ?_
  refine TC.region ?_
  refine TL.val (Yl.fieldAddr (k := 53) (m := 2) (o := 2) Tryz.underlying56 rfl sz53 rfl rfl) rfl ?_
  refine TL.val (Yl.loadA (vs := hashV df) Tryz.underlying53 rfl sz53 rfl (by repeat (first | exact Foc.head | apply Foc.tail | apply Foc.right)) rfl) rfl ?_
  refine TL.skp (Skp.storeA (vs := hashV df) sz53 rfl rfl rfl (by repeat (first | exact Foc.head | apply Foc.tail | apply Foc.right)) (Nat.le_of_ble_eq_true rfl) rfl) ?_
  refine TL.val (Yl.assign rfl) rfl ?_
  refine TL.next ?_
  exact TC.backC1 () rfl rfl rfl Tryz.underlying53 rfl (vs := hashV df) sz53 (by repeat (first | exact Foc.head | apply Foc.tail | apply Foc.right)) rfl rfl (fun _ h => h.sub (by repeat (first | exact List.Sublist.refl _ | exact List.sublist_append_right _ _ | refine List.Sublist.cons_cons _ ?_ | refine List.Sublist.cons _ ?_)))
theorem size56_q (dg df m z d : List UInt8) (n : Nat) : Quiet Tryz.prog 125 #[.agg ⟨saidL dg df n m z d⟩] [] (.tuple #[.int .i64 (n : Int), .nilIface]) := by
  refine Quiet.of_gives fun g Fr => ?_
  refine Gives.enter Tryz.func125 rfl Tryz.ntmps125 rfl ?_
  refine TC.seq ?_
  refine TC.region ?_
  refine TL.eff (Eff.box (v := .agg ⟨saidL dg df n m z d⟩) rfl rfl) rfl fun b1 => ?_
  refine TL.val (Yl.assign rfl) rfl ?_
  refine TL.val (Yl.assign rfl) rfl ?_
  refine TL.next ?_
  refine TC.seq ?_
  refine TC.region ?_
  refine TL.val (Yl.fieldAddr (k := 2) (m := 4) (o := 4) Tryz.underlying56 rfl sz2 rfl rfl) rfl ?_
  refine TL.val (Yl.load1 (v := .int .i64 (n : Int)) Tryz.underlying2 rfl rfl (by repeat (first | exact Foc.head | apply Foc.tail | apply Foc.right)) rfl) rfl ?_
  refine TL.val (Yl.assign rfl) rfl ?_
  refine TL.val (Yl.assign rfl) rfl ?_
  refine TL.next ?_
  exact TC.back2 () rfl rfl rfl rfl (fun _ h => h.sub (by repeat (first | exact List.Sublist.refl _ | exact List.sublist_append_right _ _ | refine List.Sublist.cons_cons _ ?_ | refine List.Sublist.cons _ ?_)))
theorem newStr_g (s : List UInt8) (g : World) (Fr : HL) : Gives Tryz.prog 130 #[vS s] g Fr Nat (fun b => pt b 0) (fun b => (b, srd s 0) :: Fr) := by
  refine Gives.enter Tryz.func130 rfl Tryz.ntmps130 rfl ?_
  refine TC.seq ?_
  refine TC.region ?_
  refine TL.val (Yl.assign rfl) rfl ?_
  refine TL.next ?_
  refine TC.seq ?_
  refine TC.region ?_
  refine TL.val (Yl.move rfl) rfl ?_
  refine TL.val (Yl.build (ixs := [0, 1, 2]) (vs := [_, _, _]) (rs := [vS s, .int .i64 0, .int .i64 (-1)]) [_, _, _] st284 rfl ⟨rfl, rfl, rfl, trivial⟩ rfl) rfl ?_
  refine TL.eff (Eff.box rfl rfl) rfl fun b5 => ?_
  refine TL.val (Yl.assign rfl) rfl ?_
  refine TL.next ?_
  exact TC.back1 (σ := Nat) b5 rfl rfl (fun _ h => h)
theorem nopCloser_q (b : Nat) : Quiet Tryz.prog 129 #[.iface 278 (pt b 0)] [] (clV b) := by
  refine Quiet.of_gives fun g Fr => ?_
  refine Gives.enter Tryz.func129 rfl Tryz.ntmps129 rfl ?_
  refine TC.seq ?_
  refine TC.region ?_
  refine TL.val (Yl.assign rfl) rfl ?_
  refine TL.next ?_
  refine TC.seq ?_
  refine TC.seq ?_
  refine TC.region ?_
  refine TL.val (Yl.move rfl) rfl ?_
  refine TL.val (Yl.asI Tryz.underlying222 rfl (by kernel_rfl)) rfl ?_
  refine TL.val (Yl.move rfl) rfl ?_
  refine TL.val (Yl.extract rfl rfl) rfl ?_
  refine TL.val (Yl.extract rfl rfl) rfl ?_
  refine TL.val (Yl.assign rfl) rfl ?_
  refine TL.val (Yl.assign rfl) rfl ?_
  refine TL.next ?_
  refine TC.seq ?_
  refine TC.region ?_
  refine TL.val (Yl.move rfl) rfl ?_
  refine TL.next ?_
  refine TC.yes rfl ?_
  refine TC.seq ?_
  refine TC.region ?_
  refine TL.val (Yl.move rfl) rfl ?_
  refine TL.val (Yl.build (ixs := [0]) (vs := [_]) (rs := [_]) [_] st281 rfl ⟨rfl, trivial⟩ rfl) rfl ?_
  refine TL.val (Yl.iface Tryz.underlying281 rfl rfl) rfl ?_
  refine TL.val (Yl.assign rfl) rfl ?_
  refine TL.next ?_
  exact TC.back1 () rfl rfl (fun _ h => h.sub (by repeat (first | exact List.Sublist.refl _ | exact List.sublist_append_right _ _ | refine List.Sublist.cons_cons _ ?_ | refine List.Sublist.cons _ ?_)))
theorem opener1_g (s : List UInt8) (b0 : Nat) (g : World) (Fr : HL) : Gives Tryz.prog 128 #[pt b0 0] g ((b0, oC [vS s] 9) :: Fr) Nat (fun b => .tuple #[clV b, .nilIface]) (fun b => (b, srd s 0) :: (b0, oC [vS s] 9) :: Fr) := by
  refine Gives.enter Tryz.func128 rfl Tryz.ntmps128 rfl ?_
  refine TC.seq ?_
  refine TC.region ?_
  refine TL.val (Yl.assign rfl) rfl ?_
  refine TL.val (Yl.assign rfl) rfl ?_
  refine TL.next ?_
  refine TC.seq ?_
  refine TC.region ?_
  refine TL.val (Yl.load1 Tryz.underlying9 rfl rfl (by repeat (first | exact Foc.head | apply Foc.tail | apply Foc.right)) rfl) rfl ?_
  refine TL.call (Cll.func (xs := [_]) (vs := [_]) Tryz.func130 rfl (by kernel_rfl) ⟨rfl, trivial⟩) rfl (newStr_g s g _) fun b4 => ?_
  refine TL.val (Yl.iface Tryz.underlying278 rfl rfl) rfl ?_
  refine TL.quiet (Cll.func (xs := [_]) (vs := [_]) Tryz.func129 rfl (by kernel_rfl) ⟨rfl, trivial⟩) rfl (Quiet.none (nopCloser_q b4)) ?_
  refine TL.val (Yl.assign rfl) rfl ?_
  refine TL.val (Yl.assign rfl) rfl ?_
  refine TL.next ?_
  exact TC.back2 (σ := Nat) b4 rfl rfl rfl rfl (fun _ h => h)
theorem opener_g (s : List UInt8) (g : World) (Fr : HL) : Gives Tryz.prog 127 #[vS s] g Fr Nat (fun b => .func (.func 128) #[] ⟨[pt b 0]⟩) (fun b => (b, oC [vS s] 9) :: Fr) := by
  refine Gives.enter Tryz.func127 rfl Tryz.ntmps127 rfl ?_
  refine TC.seq ?_
  refine TC.region ?_
  refine TL.eff (Eff.box rfl rfl) rfl fun b1 => ?_
  refine TL.val (Yl.assign rfl) rfl ?_
  refine TL.next ?_
  refine TC.seq ?_
  refine TC.region ?_
  refine TL.val (Yl.func (xs := []) (ys := [_]) (vs := []) (us := [_]) trivial ⟨rfl, trivial⟩) rfl ?_
  refine TL.val (Yl.assign rfl) rfl ?_
  refine TL.next ?_
  exact TC.back1 (σ := Nat) b1 rfl rfl (fun _ h => h)
theorem compressed_g (dg df m z d : List UInt8) (n : Nat) (g : World) (Fr : HL) : Gives Tryz.prog 122 #[.agg ⟨saidL dg df n m z d⟩] g Fr Nat (fun b => .tuple #[clV b, .nilIface]) (fun b => (b, srd z 0) :: Fr) := by
  refine Gives.enter Tryz.func122 rfl Tryz.ntmps122 rfl ?_
  refine TC.seq ?_
  refine TC.region ?_
  refine TL.eff (Eff.box (v := .agg ⟨saidL dg df n m z d⟩) rfl rfl) rfl fun b1 => ?_
  refine TL.val (Yl.assign rfl) rfl ?_
  refine TL.val (Yl.assign rfl) rfl ?_
  refine TL.next ?_
  refine TC.seq ?_
  refine TC.region ?_
  refine TL.val (Yl.fieldAddr (k := 9) (m := 6) (o := 6) Tryz.underlying56 rfl sz9 rfl rfl) rfl ?_
  refine TL.val (Yl.load1 (v := vS z) Tryz.underlying9 rfl rfl (by repeat (first | exact Foc.head | apply Foc.tail | apply Foc.right)) rfl) rfl ?_
  refine TL.call (Cll.func (xs := [_]) (vs := [_]) Tryz.func127 rfl (by kernel_rfl) ⟨rfl, trivial⟩) rfl (opener_g z g _) fun b6 => ?_
  refine TL.call (Cll.clo (xs := []) (vs := []) Tryz.func128 rfl (by kernel_rfl) rfl trivial) rfl (opener1_g z b6 g _) fun b7 => ?_
  refine TL.val (Yl.extract rfl rfl) rfl ?_
  refine TL.val (Yl.extract rfl rfl) rfl ?_
  refine TL.val (Yl.assign rfl) rfl ?_
  refine TL.val (Yl.assign rfl) rfl ?_
  refine TL.next ?_
  exact TC.back2 (σ := Nat) b7 rfl rfl rfl rfl (fun _ h => h.sub (by repeat (first | exact List.Sublist.refl _ | exact List.sublist_append_right _ _ | refine List.Sublist.cons_cons _ ?_ | refine List.Sublist.cons _ ?_)))
theorem uncompressed_g (dg df m z d : List UInt8) (n : Nat) (g : World) (Fr : HL) : Gives Tryz.prog 126 #[.agg ⟨saidL dg df n m z d⟩] g Fr Nat (fun b => .tuple #[clV b, .nilIface]) (fun b => (b, srd d 0) :: Fr) := by
  refine Gives.enter Tryz.func126 rfl Tryz.ntmps126 rfl ?_
  refine TC.seq ?_
  refine TC.region ?_
  refine TL.eff (Eff.box (v := .agg ⟨saidL dg df n m z d⟩) rfl rfl) rfl fun b1 => ?_
  refine TL.val (Yl.assign rfl) rfl ?_
  refine TL.val (Yl.assign rfl) rfl ?_
  refine TL.next ?_
  refine TC.seq ?_
  refine TC.region ?_
  refine TL.val (Yl.fieldAddr (k := 9) (m := 7) (o := 7) Tryz.underlying56 rfl sz9 rfl rfl) rfl ?_
  refine TL.val (Yl.load1 (v := vS d) Tryz.underlying9 rfl rfl (by repeat (first | exact Foc.head | apply Foc.tail | apply Foc.right)) rfl) rfl ?_
  refine TL.call (Cll.func (xs := [_]) (vs := [_]) Tryz.func127 rfl (by kernel_rfl) ⟨rfl, trivial⟩) rfl (opener_g d g _) fun b6 => ?_
  refine TL.call (Cll.clo (xs := []) (vs := []) Tryz.func128 rfl (by kernel_rfl) rfl trivial) rfl (opener1_g d b6 g _) fun b7 => ?_
  refine TL.val (Yl.extract rfl rfl) rfl ?_
  refine TL.val (Yl.extract rfl rfl) rfl ?_
  refine TL.val (Yl.assign rfl) rfl ?_
  refine TL.val (Yl.assign rfl) rfl ?_
  refine TL.next ?_
  exact TC.back2 (σ := Nat) b7 rfl rfl rfl rfl (fun _ h => h.sub (by repeat (first | exact List.Sublist.refl _ | exact List.sublist_append_right _ _ | refine List.Sublist.cons_cons _ ?_ | refine List.Sublist.cons _ ?_)))
theorem strEof_q (s : List UInt8) (i : Nat) (hi : s.length ≤ i) (hi2 : i ≤ 1099511627776) (b : Nat) (p : Value) (ea : Addr) : Quiet Tryz.prog 192 #[pt b 0, p] [(b, srd s i), eofB ea] (.tuple #[.int .i64 0, eofV ea]) := by
  refine Quiet.of_gives fun g Fr => ?_
  refine Gives.enter Tryz.func192 rfl Tryz.ntmps192 rfl ?_
  refine TC.seq ?_
  refine TC.region ?_
  refine TL.val (Yl.assign rfl) rfl ?_
  refine TL.val (Yl.assign rfl) rfl ?_
  refine TL.next ?_
  refine TC.seq ?_
  refine TC.seq ?_
  refine TC.draws [] _ mixed (by kernel_rfl) rfl (fun _ h => h) ?_
  refine TA.pure 0 rfl (by kernel_rfl) (Yl.move rfl) rfl ?_
  refine TA.pure 1 rfl (by kernel_rfl) (Yl.nilCheckP rfl) rfl ?_
  refine TA.pure 2 rfl (by kernel_rfl) (Yl.fieldAddr (k := 2) (m := 1) (o := 1) Tryz.underlying284 rfl sz2 rfl rfl) rfl ?_
  refine TA.load 3 rfl (by kernel_rfl) (Yl.load1 (v := .int .i64 (i : Int)) Tryz.underlying2 rfl rfl (by repeat (first | exact Foc.head | apply Foc.tail | apply Foc.right)) rfl) rfl ?_
  refine TA.pure 4 rfl (by kernel_rfl) (Yl.move rfl) rfl ?_
  refine TA.pure 5 rfl (by kernel_rfl) (Yl.nilCheckP rfl) rfl ?_
  refine TA.pure 6 rfl (by kernel_rfl) (Yl.fieldAddr (k := 9) (m := 0) (o := 0) Tryz.underlying284 rfl sz9 rfl rfl) rfl ?_
  refine TA.load 7 rfl (by kernel_rfl) (Yl.load1 (v := vS s) Tryz.underlying9 rfl rfl (by repeat (first | exact Foc.head | apply Foc.tail | apply Foc.right)) rfl) rfl ?_
  refine TA.pure 8 rfl (by kernel_rfl) (Yl.lenS Tryz.underlying9 rfl) rfl ?_
  refine TA.pure 9 rfl (by kernel_rfl) (Yl.geq rfl rfl (decide_eq_true (by omega))) rfl ?_
  refine TA.next (by kernel_rfl) ?_
  refine TC.yes rfl ?_
  refine TC.seq ?_
  refine TC.draws [] _ mixed (by kernel_rfl) rfl (fun _ h => h) ?_
  refine TA.load 0 rfl (by kernel_rfl) (Yl.load1 (v := eofV ea) Tryz.underlying58 rfl rfl (by repeat (first | exact Foc.head | apply Foc.tail | apply Foc.right)) rfl) rfl ?_
  refine TA.pure 1 rfl (by kernel_rfl) (Yl.assign rfl) rfl ?_
  refine TA.pure 2 rfl (by kernel_rfl) (Yl.assign rfl) rfl ?_
  refine TA.next (by kernel_rfl) ?_
  exact TC.back2 () rfl rfl rfl rfl (fun _ h => h.sub (by repeat (first | exact List.Sublist.refl _ | exact List.sublist_append_right _ _ | refine List.Sublist.cons_cons _ ?_ | refine List.Sublist.cons _ ?_)))
theorem strRead_g (s l : List UInt8) (i : Nat) (hi : i < s.length) (hs : s.length ≤ 1099511627776) (b bp off m cap : Nat) (hm : off + m ≤ l.length) (g : World) (Fr : HL) : Gives Tryz.prog 192 #[pt b 0, sl bp off m cap] g ((b, srd s i) :: (bp, oC (bV l) 5) :: Fr) Unit (fun _ => .tuple #[.int .i64 ((rdN s.length i m : Nat) : Int), .nilIface])
    (fun _ => (b, srd s (i + rdN s.length i m)) :: (bp, oC (bV (layB l off ((s.drop i).take (rdN s.length i m)))) 5) :: Fr) := by
  refine Gives.enter Tryz.func192 rfl Tryz.ntmps192 rfl ?_
  refine TC.seq ?_
  refine TC.region ?_
  refine TL.val (Yl.assign rfl) rfl ?_
  refine TL.val (Yl.assign rfl) rfl ?_
  refine TL.next ?_
  refine TC.seq ?_
  refine TC.seq ?_
  refine TC.draws [] _ mixed (by kernel_rfl) rfl (fun _ h => h) ?_
  refine TA.pure 0 rfl (by kernel_rfl) (Yl.move rfl) rfl ?_
  refine TA.pure 1 rfl (by kernel_rfl) (Yl.nilCheckP rfl) rfl ?_
  refine TA.pure 2 rfl (by kernel_rfl) (Yl.fieldAddr (k := 2) (m := 1) (o := 1) Tryz.underlying284 rfl sz2 rfl rfl) rfl ?_
  refine TA.load 3 rfl (by kernel_rfl) (Yl.load1 (v := .int .i64 (i : Int)) Tryz.underlying2 rfl rfl (by repeat (first | exact Foc.head | apply Foc.tail | apply Foc.right)) rfl) rfl ?_
  refine TA.pure 4 rfl (by kernel_rfl) (Yl.move rfl) rfl ?_
  refine TA.pure 5 rfl (by kernel_rfl) (Yl.nilCheckP rfl) rfl ?_
  refine TA.pure 6 rfl (by kernel_rfl) (Yl.fieldAddr (k := 9) (m := 0) (o := 0) Tryz.underlying284 rfl sz9 rfl rfl) rfl ?_
  refine TA.load 7 rfl (by kernel_rfl) (Yl.load1 (v := vS s) Tryz.underlying9 rfl rfl (by repeat (first | exact Foc.head | apply Foc.tail | apply Foc.right)) rfl) rfl ?_
  refine TA.pure 8 rfl (by kernel_rfl) (Yl.lenS Tryz.underlying9 rfl) rfl ?_
  refine TA.pure 9 rfl (by kernel_rfl) (Yl.geq rfl rfl (decide_eq_false (by omega))) rfl ?_
  refine TA.next (by kernel_rfl) ?_
  refine TC.no rfl ?_
  refine TC.skip_next ?_
  refine TC.seq ?_
  refine TC.region ?_
  refine TL.val (Yl.move rfl) rfl ?_
  refine TL.val (Yl.nilCheckP rfl) rfl ?_
  refine TL.val (Yl.fieldAddr (k := 3) (m := 2) (o := 2) Tryz.underlying284 rfl sz3 rfl rfl) rfl ?_
  refine TL.skp (Skp.store1 (cs' := [vS s, .int .i64 (i : Int), .int .i64 (-1)]) sz3 rfl rfl rfl (by repeat (first | exact Foc.head | apply Foc.tail | apply Foc.right)) (Nat.le_of_ble_eq_true rfl) rfl) ?_
  refine TL.next ?_
  refine TC.seq ?_
  refine TC.draws [] ((b, srd s i) :: Fr) mixed (by kernel_rfl) rfl (fun _ h => h.sub (by repeat (first | exact List.Sublist.refl _ | exact List.sublist_append_right _ _ | refine List.Sublist.cons_cons _ ?_ | refine List.Sublist.cons _ ?_))) ?_
  refine TA.pure 0 rfl (by kernel_rfl) (Yl.move rfl) rfl ?_
  refine TA.pure 1 rfl (by kernel_rfl) (Yl.move rfl) rfl ?_
  refine TA.pure 2 rfl (by kernel_rfl) (Yl.nilCheckP rfl) rfl ?_
  refine TA.pure 3 rfl (by kernel_rfl) (Yl.fieldAddr (k := 9) (m := 0) (o := 0) Tryz.underlying284 rfl sz9 rfl rfl) rfl ?_
  refine TA.load 4 rfl (by kernel_rfl) (Yl.load1 (v := vS s) Tryz.underlying9 rfl rfl (by repeat (first | exact Foc.head | apply Foc.tail | apply Foc.right)) rfl) rfl ?_
  refine TA.pure 5 rfl (by kernel_rfl) (Yl.move rfl) rfl ?_
  refine TA.pure 6 rfl (by kernel_rfl) (Yl.nilCheckP rfl) rfl ?_
  refine TA.pure 7 rfl (by kernel_rfl) (Yl.fieldAddr (k := 2) (m := 1) (o := 1) Tryz.underlying284 rfl sz2 rfl rfl) rfl ?_
  refine TA.load 8 rfl (by kernel_rfl) (Yl.load1 (v := .int .i64 (i : Int)) Tryz.underlying2 rfl rfl (by repeat (first | exact Foc.head | apply Foc.tail | apply Foc.right)) rfl) rfl ?_
  refine TA.pure 9 rfl (by kernel_rfl) (Yl.sliceSL (j := i) Tryz.underlying9 rfl rfl rfl (by omega)) rfl ?_
  refine TA.one 10 (by kernel_rfl) ?_
  refine Up.eff rfl rfl (Eff.copyB (news := s.drop i) (k := rdN s.length i m) Tryz.underlying40 sz5 rfl rfl (by repeat (first | exact Foc.head | apply Foc.tail | apply Foc.right)) Src.str rfl (by rw [List.length_drop]; rfl) (by have := rdN_r s.length i m; omega)) rfl (fun _ => .inr (fun _ h => h.sub (by repeat (first | exact List.Sublist.refl _ | exact List.sublist_append_right _ _ | refine List.Sublist.cons_cons _ ?_ | refine List.Sublist.cons _ ?_)))) fun _ => ?_
  refine TA.pure 11 rfl (by kernel_rfl) (Yl.assign rfl) rfl ?_
  refine TA.next (by kernel_rfl) ?_
  refine TC.seq ?_
  refine TC.region ?_
  refine TL.val (Yl.move rfl) rfl ?_
  refine TL.val (Yl.nilCheckP rfl) rfl ?_
  refine TL.val (Yl.fieldAddr (k := 2) (m := 1) (o := 1) Tryz.underlying284 rfl sz2 rfl rfl) rfl ?_
  refine TL.val (Yl.load1 (v := .int .i64 (i : Int)) Tryz.underlying2 rfl rfl (by repeat (first | exact Foc.head | apply Foc.tail | apply Foc.right)) rfl) rfl ?_
  refine TL.val (Yl.move rfl) rfl ?_
  refine TL.val (Yl.add (r := ((i + rdN s.length i m : Nat) : Int)) rfl rfl ((wI (by have := rdN_l s.length i m; omega)).trans (by omega))) rfl ?_
  refine TL.val (Yl.nilCheckP rfl) rfl ?_
  refine TL.val (Yl.fieldAddr (k := 2) (m := 1) (o := 1) Tryz.underlying284 rfl sz2 rfl rfl) rfl ?_
  refine TL.skp (Skp.store1 (cs' := [vS s, .int .i64 ((i + rdN s.length i m : Nat) : Int), .int .i64 (-1)]) sz2 rfl rfl rfl (by repeat (first | exact Foc.head | apply Foc.tail | apply Foc.right)) (Nat.le_of_ble_eq_true rfl) rfl) ?_
  refine TL.next ?_
  exact TC.back2 () rfl rfl rfl rfl (fun _ h => h.sub (by repeat (first | exact List.Sublist.refl _ | exact List.sublist_append_right _ _ | refine List.Sublist.cons_cons _ ?_ | refine List.Sublist.cons _ ?_)))
end Go.Proofs.YtlhncphipfkkjaaGreatDoor

/- More laws: room appended to nothing, a type assertion that must hold, a call behind other blocks. -/
namespace Go.Proofs.YtlhncphipfkkjaaGreatDoor
open Go
variable {P : Program} {F : FL} {H : HL} {g : World} {d : Option Nat} {ty : TypeId} {pos : String} {aft : Array Edge} {gd : Option (Nat × Bool)}

theorem Gives.of {f : FuncId} {args : Array Value} {g : World} {H L : HL} {σ : Type} {v : σ → Value} {H' : σ → HL} (hp : ∀ w, Own g w H → Own g w L) (h : Gives P f args g L σ v H') : Gives P f args g H σ v H' :=
  fun w ho => h w (hp w ho)

theorem Yl.asI1 {x : Operand} {xt t t' : TypeId} {v : Value} {want : Array (String × TypeId)} (hu : P.underlying t = some (.interface want)) (hx : ev F x = some (.iface t' v)) (hm : ((P.info? t').map fun i => Instr.missingMethod want i.methods) = some none) :
    Yl P F H ⟨d, .typeAssert x xt t false, ty, pos, aft, gd⟩ (.iface t' v) := fun a g w hf _ => by
  obtain ⟨i, hi, hmi⟩ := Option.map_eq_some_iff.1 hm
  simp [execOp, hf.eval hx, Instr.typeAssert, run_underlying hu, typeInfo, hi, hmi]

theorem missing_one {want : Array (String × TypeId)} {got : Array Method} {a : String} (h : List.map (fun x => x.1) (List.filter (fun x => !got.any fun m => m.name == x.1 && m.sig == x.2) want.toList) = [a]) : (Instr.missingMethod want got).isSome = true := by
  unfold Instr.missingMethod
  have h' : List.map (fun x => x.fst) (List.filter (fun x => match x with | (name, sig) => !got.any fun m => m.name == name && m.sig == sig) want.toList) = [a] := h
  simp only [h']
  rw [List.partition_eq_filter_filter]
  by_cases hc : (Char.ofNat 46) ∈ a.toList <;> simp [List.filter_cons, hc, Instr.least]
/-- one method is lacking -/
theorem Yl.noI1 {x : Operand} {xt t t' : TypeId} {v z : Value} {want : Array (String × TypeId)} {n : String} (hu : P.underlying t = some (.interface want)) (hx : ev F x = some (.iface t' v))
    (hm : ((P.info? t').map fun i => List.map (fun x => x.1) (List.filter (fun x => !i.methods.any fun m => m.name == x.1 && m.sig == x.2) want.toList)) = some [n]) (hz : ZeroIs P t z) :
    Yl P F H ⟨d, .typeAssert x xt t true, ty, pos, aft, gd⟩ (.tuple #[z, .bool false]) :=
  Yl.noI hu hx (by obtain ⟨i, hi, h⟩ := Option.map_eq_some_iff.1 hm; rw [hi]; exact congrArg some (missing_one h)) hz

/-- copy, into a block of another row -/
theorem Eff.copyT {t t2 e te : TypeId} {x y : Operand} {b off dl cap m n : Nat} {cs news : List Value} {u : Value} {K : Obj → HL} (hu : P.underlying t = some (.slice e)) (hs : SizeIs P e 1)
    (hx : ev F x = some (sl b off dl cap)) (hy : ev F y = some u) (hF : Foc H b (oC cs te) K) (hsrc : Src P g H 1 m u news) (hm : news.length = m) (h1 : ∀ y ∈ news, y.oneCell' = true) (hn : Nat.min m dl = n) (hl : off + n ≤ cs.length) :
    Eff P F g H ⟨d, .call { callee := .builtin .copy, args := #[x, y], argTypes := #[t, t2] }, ty, pos, aft, gd⟩ Unit (fun _ => .int .i64 (n : Int)) (fun _ => K (oC (lay cs off (news.take n)) te)) := fun a w hf ho => by
  have hb := ho.at hF
  have hnm : n ≤ m := by rw [← hn]; exact Nat.min_le_left _ _
  have hfc := hsrc.2 w ho n (by omega)
  rw [Nat.mul_one] at hfc
  have hlen : (news.take n).length = n := List.length_take_of_le (by omega)
  have hst := run_store_cells (P := P) hb (vs := news.take n) (off := off) (by rw [hlen]; exact hl) (fun v hv => h1 v (List.mem_of_mem_take hv))
  refine ⟨(), _, ?_, ho.setRow hF⟩
  simp [execOp, resolve, invoke, builtin, hf.eval hx, hf.eval hy, Builtin.copy_, run_underlying hu, hsrc.1 w, hn, run_sizeOf' hs, hfc, hst, goInt]
theorem Eff.copyTB {t t2 e te : TypeId} {x y : Operand} {b off dl cap m k : Nat} {l news : List UInt8} {u : Value} {K : Obj → HL} (hu : P.underlying t = some (.slice e)) (hs : SizeIs P e 1)
    (hx : ev F x = some (sl b off dl cap)) (hy : ev F y = some u) (hF : Foc H b (oC (bV l) te) K) (hsrc : Src P g H 1 m u (bV news)) (hm : news.length = m) (hn : Nat.min m dl = k) (hl : off + k ≤ l.length) :
    Eff P F g H ⟨d, .call { callee := .builtin .copy, args := #[x, y], argTypes := #[t, t2] }, ty, pos, aft, gd⟩ Unit (fun _ => .int .i64 (k : Int)) (fun _ => K (oC (bV (layB l off (news.take k))) te)) := by
  have := Eff.copyT (P := P) (F := F) (g := g) (d := d) (ty := ty) (pos := pos) (aft := aft) (gd := gd) (t2 := t2) hu hs hx hy hF hsrc (by rw [bV_length]; exact hm) (bV_ones news) hn (by rw [bV_length]; exact hl)
  simpa only [bV_take, lay_bV] using this

theorem zeroBytes (n : Nat) : (Builtin.zeroCells (Value.int .u8 0).cells n).toList = bV (List.replicate n 0) := by
  rw [← bV_zeros]
  apply List.ext_getElem?
  intro j
  simp only [Builtin.zeroCells, Value.cells, Array.toList_map, Array.toList_range, List.getElem?_map]
  by_cases hj : j < n
  · simp [hj, Nat.mod_one]
  · simp [hj]

theorem run_appZ {w : World} {t t2 ty te : TypeId} {k : IntKind} {m : Nat} (hu : P.underlying t = some (.slice te)) (hu2 : P.underlying t2 = some (.int k)) (hs : SizeIs P te 1)
    (hby : BytesIs P te 1) (hz : ZeroIs P te (.int .u8 0)) (hm : 0 < m) (hl : m ≤ 140737488355328) :
    (Builtin.append_ #[t, t2] ty #[.slice none 0 0, .int .i64 (m : Int)]).run P w = .ok (sl w.heap.size 0 m (grownCap w m 0 te)) (w.drew.alloc (.cells (⟨bV (List.replicate (grownCap w m 0 te) 0)⟩) te)) := by
  obtain ⟨inf, hinf, hb1⟩ := run_bytes hby
  have hw : IntKind.i64.wrap (m : Int) = m := wI (by omega)
  have hneg : ¬ ((m : Int) < 0) := by omega
  have hge := grownCap_ge w m 0 te
  have h48 : ¬ (281474976710656 < Builtin.nextslicecap m 0 * inf.bytes) := by have := growslice_fits (bytes := inf.bytes) hm (by rw [hb1]; omega); omega
  have hb0 : inf.bytes ≠ 0 := by omega
  have h63 : ¬ (9223372036854775807 < (m : Int)) := by omega
  have h482 : ¬ (281474976710656 < (m : Int) * (inf.bytes : Int)) := by rw [hb1]; omega
  have hm0 : ¬ m = 0 := by omega
  have hcells : (Builtin.zeroCells (Value.int .u8 0).cells m ++ Builtin.zeroCells (Value.int .u8 0).cells (grownCap w m 0 te - m) : Array Value) = ⟨bV (List.replicate (grownCap w m 0 te) 0)⟩ := by
    apply Array.ext'
    simp only [Array.toList_append, zeroBytes]
    rw [← bV_append, List.replicate_append_replicate]
    congr 2; omega
  rw [← hcells]
  simp [Builtin.append_, run_underlying hu, run_underlying hu2, run_sizeOf' hs, asInt, asIntOf, hw, hneg, typeInfo, hinf, run_zero hz, h48, h482, hb0, h63, hm0, Builtin.firstCells, Question.forced, newRow, grownCap]

theorem Eff.appZ {t t2 te : TypeId} {k : IntKind} {s x : Operand} {m : Nat} (hu : P.underlying t = some (.slice te)) (hu2 : P.underlying t2 = some (.int k)) (hs : SizeIs P te 1) (hb : BytesIs P te 1) (hz : ZeroIs P te (.int .u8 0))
    (hsv : ev F s = some (.slice none 0 0)) (hxv : ev F x = some (.int .i64 (m : Int))) (hm : 0 < m) (hl : m ≤ 140737488355328) :
    Eff P F g H ⟨d, .call { callee := .builtin .append, args := #[s, x], argTypes := #[t, t2] }, ty, pos, aft, gd⟩ (Nat × Nat) (fun q => sl q.1 0 m (m + q.2)) (fun q => (q.1, oC (bV (List.replicate (m + q.2) 0)) te) :: H) := fun a w hf ho => by
  have hr := run_appZ (P := P) (w := w) (ty := ty) (k := k) hu hu2 hs hb hz hm hl
  have hge := grownCap_ge w m 0 te
  obtain ⟨c, hc⟩ : ∃ c, grownCap w m 0 te = m + c := ⟨grownCap w m 0 te - m, by omega⟩
  rw [hc] at hr
  refine ⟨(w.heap.size, c), w.drew.alloc (.cells (⟨bV (List.replicate (m + c) 0)⟩) te), by simp [execOp, resolve, invoke, builtin, hf.eval hsv, hf.eval hxv, hr], ?_⟩
  exact ho.drew.alloc _

/-! ## A reader that gives the bytes of a list -/
/-- how much a reading gives: at least one byte, no more than there is, or is asked for -/
def Rk (d : List UInt8) (n m : Nat) : Type := { k : Nat // 1 ≤ k ∧ k ≤ m ∧ n + k ≤ d.length }

/-- a reader of d behind an interface; its states by how much has been read -/
structure Rdr (ea : Addr) (d : List UInt8) where
  t : TypeId
  v : Value
  rv : Value
  f : FuncId
  fn : Func
  c : Code
  hf : Tryz.prog.funcs[f]? = some fn
  hb : fn.body = some c
  hn : (fn.name == "runtime.NumGoroutine") = false
  hm : MethodIs Tryz.prog t v "Read" f rv
  ha : ∀ w, (Go.nilAhead (Tryz.prog.types.size + Made.depth) t v "Read").run Tryz.prog w = .ok (some false) w
  St : Nat → Type
  heap : (n : Nat) → St n → HL
  read : ∀ (n : Nat) (s : St n), n < d.length → ∀ (te : TypeId) (l : List UInt8) (bp off m cap : Nat), 0 < m → m ≤ cap → off + m ≤ l.length → ∀ (g : World) (Fr : HL),
    Gives Tryz.prog f #[rv, sl bp off m cap] g (heap n s ++ ((bp, oC (bV l) te) :: eofB ea :: Fr)) ((k : Rk d n m) × St (n + k.1)) (fun q => .tuple #[.int .i64 (q.1.1 : Int), .nilIface])
      (fun q => heap (n + q.1.1) q.2 ++ ((bp, oC (bV (layB l off ((d.drop n).take q.1.1))) te) :: eofB ea :: Fr))
  eof : ∀ (s : St d.length) (te : TypeId) (l : List UInt8) (bp off m cap : Nat), 0 < m → m ≤ cap → off + m ≤ l.length → ∀ (g : World) (Fr : HL),
    Gives Tryz.prog f #[rv, sl bp off m cap] g (heap d.length s ++ ((bp, oC (bV l) te) :: eofB ea :: Fr)) (St d.length) (fun _ => .tuple #[.int .i64 0, eofV ea])
      (fun s' => heap d.length s' ++ ((bp, oC (bV l) te) :: eofB ea :: Fr))
end Go.Proofs.YtlhncphipfkkjaaGreatDoor

namespace Go.Proofs.YtlhncphipfkkjaaGreatDoor
open Go
theorem writeString_g (l s : List UInt8) (q : Held l) (bh : Nat) (hl : l.length + s.length ≤ 1099511627776) (g : World) (Fr : HL) : Gives Tryz.prog 195 #[.iface 166 (pt bh 0), vS s] g (ShaAt bh l q.1 ++ Fr) (Held (l ++ s)) (fun _ => .tuple #[.int .i64 (s.length : Int), .nilIface]) (fun q => ShaAt bh (l ++ s) q.1 ++ Fr) := by
  refine Gives.enter Tryz.func195 rfl Tryz.ntmps195 rfl ?_
  refine TC.seq ?_
  refine TC.region ?_
  refine TL.val (Yl.assign rfl) rfl ?_
  refine TL.val (Yl.assign rfl) rfl ?_
  refine TL.next ?_
  refine TC.seq ?_
  refine TC.seq ?_
  refine TC.region ?_
  refine TL.val (Yl.move rfl) rfl ?_
  refine TL.val (Yl.noI1 (n := "WriteString") Tryz.underlying352 rfl (by kernel_rfl) zr352) rfl ?_
  refine TL.val (Yl.move rfl) rfl ?_
  refine TL.val (Yl.extract rfl rfl) rfl ?_
  refine TL.val (Yl.extract rfl rfl) rfl ?_
  refine TL.val (Yl.assign rfl) rfl ?_
  refine TL.val (Yl.assign rfl) rfl ?_
  refine TL.next ?_
  refine TC.seq ?_
  refine TC.region ?_
  refine TL.val (Yl.move rfl) rfl ?_
  refine TL.next ?_
  refine TC.no rfl ?_
  refine TC.skip_next ?_
  refine TC.seq ?_
  refine TC.region ?_
  refine TL.val (Yl.move rfl) rfl ?_
  refine TL.val (Yl.move rfl) rfl ?_
  refine TL.eff (Eff.bytes Tryz.underlying9 Tryz.underlying40 Tryz.underlying5 rfl) rfl fun p => ?_
  rw [bV_zeros, ← bV_append]
  refine TL.call (Cll.inv (xs := [_]) (vs := [_]) Tryz.func179 rfl (by kernel_rfl) (m166Write _) rfl ⟨rfl, trivial⟩) rfl (Gives.of (fun _ h => Own.mid (A := [_]) h) (write_g l s (s ++ List.replicate p.2 0) q bh p.1 0 s.length _ _ (by rw [List.drop_zero, List.take_left]) rfl hl g Fr)) fun q2 => ?_
  refine TL.val (Yl.extract rfl rfl) rfl ?_
  refine TL.val (Yl.extract rfl rfl) rfl ?_
  refine TL.val (Yl.assign rfl) rfl ?_
  refine TL.val (Yl.assign rfl) rfl ?_
  refine TL.next ?_
  exact TC.back2 q2 rfl rfl rfl rfl (fun _ h => h.sub (List.Sublist.append (.refl _) (.cons _ (.refl _))))
theorem strWriteTo_g (l s : List UInt8) (q : Held l) (b bh : Nat) (hs : 0 < s.length) (hl : l.length + s.length ≤ 1099511627776) (g : World) (Fr : HL) : Gives Tryz.prog 194 #[pt b 0, .iface 166 (pt bh 0)] g ((b, srd s 0) :: (ShaAt bh l q.1 ++ Fr)) (Held (l ++ s)) (fun _ => .tuple #[.int .i64 (s.length : Int), .nilIface]) (fun q => (b, srd s s.length) :: (ShaAt bh (l ++ s) q.1 ++ Fr)) := by
  refine Gives.enter Tryz.func194 rfl Tryz.ntmps194 rfl ?_
  refine TC.seq ?_
  refine TC.region ?_
  refine TL.val (Yl.assign rfl) rfl ?_
  refine TL.val (Yl.assign rfl) rfl ?_
  refine TL.next ?_
  refine TC.seq ?_
  refine TC.region ?_
  refine TL.val (Yl.move rfl) rfl ?_
  refine TL.val (Yl.nilCheckP rfl) rfl ?_
  refine TL.val (Yl.fieldAddr (k := 3) (m := 2) (o := 2) Tryz.underlying284 rfl sz3 rfl rfl) rfl ?_
  refine TL.skp (Skp.store1 (cs' := [vS s, .int .i64 0, .int .i64 (-1)]) sz3 rfl rfl rfl (by repeat (first | exact Foc.head | apply Foc.tail | apply Foc.right)) (Nat.le_of_ble_eq_true rfl) rfl) ?_
  refine TL.next ?_
  refine TC.seq ?_
  refine TC.seq ?_
  refine TC.draws [] _ mixed (by kernel_rfl) rfl (fun _ h => h) ?_
  refine TA.pure 0 rfl (by kernel_rfl) (Yl.move rfl) rfl ?_
  refine TA.pure 1 rfl (by kernel_rfl) (Yl.nilCheckP rfl) rfl ?_
  refine TA.pure 2 rfl (by kernel_rfl) (Yl.fieldAddr (k := 2) (m := 1) (o := 1) Tryz.underlying284 rfl sz2 rfl rfl) rfl ?_
  refine TA.load 3 rfl (by kernel_rfl) (Yl.load1 (v := .int .i64 0) Tryz.underlying2 rfl rfl (by repeat (first | exact Foc.head | apply Foc.tail | apply Foc.right)) rfl) rfl ?_
  refine TA.pure 4 rfl (by kernel_rfl) (Yl.move rfl) rfl ?_
  refine TA.pure 5 rfl (by kernel_rfl) (Yl.nilCheckP rfl) rfl ?_
  refine TA.pure 6 rfl (by kernel_rfl) (Yl.fieldAddr (k := 9) (m := 0) (o := 0) Tryz.underlying284 rfl sz9 rfl rfl) rfl ?_
  refine TA.load 7 rfl (by kernel_rfl) (Yl.load1 (v := vS s) Tryz.underlying9 rfl rfl (by repeat (first | exact Foc.head | apply Foc.tail | apply Foc.right)) rfl) rfl ?_
  refine TA.pure 8 rfl (by kernel_rfl) (Yl.lenS Tryz.underlying9 rfl) rfl ?_
  refine TA.pure 9 rfl (by kernel_rfl) (Yl.geq rfl rfl (decide_eq_false (by omega))) rfl ?_
  refine TA.next (by kernel_rfl) ?_
  refine TC.no rfl ?_
  refine TC.skip_next ?_
  refine TC.seq ?_
  refine TC.draws [] _ mixed (by kernel_rfl) rfl (fun _ h => h) ?_
  refine TA.pure 0 rfl (by kernel_rfl) (Yl.move rfl) rfl ?_
  refine TA.pure 1 rfl (by kernel_rfl) (Yl.nilCheckP rfl) rfl ?_
  refine TA.pure 2 rfl (by kernel_rfl) (Yl.fieldAddr (k := 9) (m := 0) (o := 0) Tryz.underlying284 rfl sz9 rfl rfl) rfl ?_
  refine TA.load 3 rfl (by kernel_rfl) (Yl.load1 (v := vS s) Tryz.underlying9 rfl rfl (by repeat (first | exact Foc.head | apply Foc.tail | apply Foc.right)) rfl) rfl ?_
  refine TA.pure 4 rfl (by kernel_rfl) (Yl.move rfl) rfl ?_
  refine TA.pure 5 rfl (by kernel_rfl) (Yl.nilCheckP rfl) rfl ?_
  refine TA.pure 6 rfl (by kernel_rfl) (Yl.fieldAddr (k := 2) (m := 1) (o := 1) Tryz.underlying284 rfl sz2 rfl rfl) rfl ?_
  refine TA.load 7 rfl (by kernel_rfl) (Yl.load1 (v := .int .i64 0) Tryz.underlying2 rfl rfl (by repeat (first | exact Foc.head | apply Foc.tail | apply Foc.right)) rfl) rfl ?_
  refine TA.pure 8 rfl (by kernel_rfl) (Yl.sliceSL (j := 0) Tryz.underlying9 rfl rfl rfl (by omega)) rfl ?_
  refine TA.pure 9 rfl (by kernel_rfl) (Yl.assign rfl) rfl ?_
  refine TA.next (by kernel_rfl) ?_
  refine TC.seq ?_
  rw [List.drop_zero]
  refine TC.region ?_
  refine TL.val (Yl.move rfl) rfl ?_
  refine TL.val (Yl.move rfl) rfl ?_
  refine TL.call (Cll.func (xs := [_, _]) (vs := [_, _]) Tryz.func195 rfl (by kernel_rfl) ⟨rfl, rfl, trivial⟩) rfl (Gives.of (fun _ h => Own.mid (A := [(b, _)]) (H1 := ShaAt bh l q.1) h) (writeString_g l s q bh hl g _)) fun q2 => ?_
  refine TL.val (Yl.move rfl) rfl ?_
  refine TL.val (Yl.extract rfl rfl) rfl ?_
  refine TL.val (Yl.extract rfl rfl) rfl ?_
  refine TL.val (Yl.assign rfl) rfl ?_
  refine TL.val (Yl.assign rfl) rfl ?_
  refine TL.next ?_
  refine TC.seq ?_
  refine TC.seq ?_
  refine TC.region ?_
  refine TL.val (Yl.move rfl) rfl ?_
  refine TL.val (Yl.move rfl) rfl ?_
  refine TL.val (Yl.lenS Tryz.underlying9 rfl) rfl ?_
  refine TL.val (Yl.gtr rfl rfl (decide_eq_false (by omega))) rfl ?_
  refine TL.next ?_
  refine TC.no rfl ?_
  refine TC.skip_next ?_
  refine TC.seq ?_
  refine TC.region ?_
  refine TL.val (Yl.move rfl) rfl ?_
  refine TL.val (Yl.nilCheckP rfl) rfl ?_
  refine TL.val (Yl.fieldAddr (k := 2) (m := 1) (o := 1) Tryz.underlying284 rfl sz2 rfl rfl) rfl ?_
  refine TL.val (Yl.load1 (v := .int .i64 0) Tryz.underlying2 rfl rfl (by repeat (first | exact Foc.head | apply Foc.tail | apply Foc.right)) rfl) rfl ?_
  refine TL.val (Yl.move rfl) rfl ?_
  refine TL.val (Yl.add (r := (s.length : Int)) rfl rfl ((wI (by omega)).trans (by omega))) rfl ?_
  refine TL.val (Yl.nilCheckP rfl) rfl ?_
  refine TL.val (Yl.fieldAddr (k := 2) (m := 1) (o := 1) Tryz.underlying284 rfl sz2 rfl rfl) rfl ?_
  refine TL.skp (Skp.store1 (cs' := [vS s, .int .i64 (s.length : Int), .int .i64 (-1)]) sz2 rfl rfl rfl (by repeat (first | exact Foc.head | apply Foc.tail | apply Foc.right)) (Nat.le_of_ble_eq_true rfl) rfl) ?_
  refine TL.next ?_
  refine TC.seq ?_
  refine TC.region ?_
  refine TL.val (Yl.move rfl) rfl ?_
  refine TL.val (Yl.assign rfl) rfl ?_
  refine TL.next ?_
  refine TC.seq ?_
  refine TC.seq ?_
  refine TC.region ?_
  refine TL.val (Yl.move rfl) rfl ?_
  refine TL.val (Yl.move rfl) rfl ?_
  refine TL.val (Yl.lenS Tryz.underlying9 rfl) rfl ?_
  refine TL.val (Yl.neq rfl rfl (decide_eq_false (fun h => h rfl))) rfl ?_
  refine TL.val (Yl.move rfl) rfl ?_
  refine TL.no rfl rfl rfl rfl rfl ?_
  refine TL.no rfl rfl rfl rfl rfl ?_
  refine TL.val (Yl.pickF rfl rfl) rfl ?_
  refine TL.next ?_
  refine TC.no rfl ?_
  refine TC.skip_next ?_
  exact TC.back2 q2 rfl rfl rfl rfl (fun _ h => Own.mid (A := ShaAt bh (l ++ s) q2.1) (H1 := [(b, _)]) h)
theorem nopWriteTo_g (l s : List UInt8) (q : Held l) (b bh : Nat) (hs : 0 < s.length) (hl : l.length + s.length ≤ 1099511627776) (g : World) (Fr : HL) : Gives Tryz.prog 197 #[.agg ⟨[.iface 278 (pt b 0)]⟩, .iface 166 (pt bh 0)] g ((b, srd s 0) :: (ShaAt bh l q.1 ++ Fr)) (Held (l ++ s)) (fun _ => .tuple #[.int .i64 (s.length : Int), .nilIface]) (fun q => (b, srd s s.length) :: (ShaAt bh (l ++ s) q.1 ++ Fr)) := by
  refine Gives.enter Tryz.func197 rfl Tryz.ntmps197 rfl ?_
  refine TC.seq ?_
  refine TC.region ?_
  refine TL.eff (Eff.box (v := .agg ⟨[.iface 278 (pt b 0)]⟩) rfl rfl) rfl fun b2 => ?_
  refine TL.val (Yl.assign rfl) rfl ?_
  refine TL.val (Yl.assign rfl) rfl ?_
  refine TL.next ?_
  refine TC.seq ?_
  refine TC.region ?_
  refine TL.val (Yl.fieldAddr (k := 110) (m := 0) (o := 0) Tryz.underlying281 rfl sz110 rfl rfl) rfl ?_
  refine TL.val (Yl.load1 (v := .iface 278 (pt b 0)) Tryz.underlying110 rfl rfl (by repeat (first | exact Foc.head | apply Foc.tail | apply Foc.right)) rfl) rfl ?_
  refine TL.val (Yl.asI1 Tryz.underlying222 rfl (by kernel_rfl)) rfl ?_
  refine TL.val (Yl.move rfl) rfl ?_
  refine TL.call (Cll.inv (xs := [_]) (vs := [_]) Tryz.func194 rfl (by kernel_rfl) (m278WriteTo _) rfl ⟨rfl, trivial⟩) rfl (Gives.of (fun _ h => h.sub (.cons _ (.refl _))) (strWriteTo_g l s q b bh hs hl g Fr)) fun q2 => ?_
  refine TL.val (Yl.extract rfl rfl) rfl ?_
  refine TL.val (Yl.extract rfl rfl) rfl ?_
  refine TL.val (Yl.assign rfl) rfl ?_
  refine TL.val (Yl.assign rfl) rfl ?_
  refine TL.next ?_
  exact TC.back2 q2 rfl rfl rfl rfl (fun _ h => h)
/-- a reader over bytes: the slice that it has, how far it is -/
def brd (v : Value) (i : Nat) : Obj := oC [v, .int .i64 (i : Int), .int .i64 (-1)] 173
theorem newBytes_g (bz oz n cz : Nat) (g : World) (Fr : HL) : Gives Tryz.prog 32 #[sl bz oz n cz] g Fr Nat (fun b => pt b 0) (fun b => (b, brd (sl bz oz n cz) 0) :: Fr) := by
  refine Gives.enter Tryz.func32 rfl Tryz.ntmps32 rfl ?_
  refine TC.seq ?_
  refine TC.region ?_
  refine TL.val (Yl.assign rfl) rfl ?_
  refine TL.next ?_
  refine TC.seq ?_
  refine TC.region ?_
  refine TL.val (Yl.move rfl) rfl ?_
  refine TL.val (Yl.build (ixs := [0, 1, 2]) (vs := [_, _, _]) (rs := [sl bz oz n cz, .int .i64 0, .int .i64 (-1)]) [_, _, _] st173 rfl ⟨rfl, rfl, rfl, trivial⟩ rfl) rfl ?_
  refine TL.eff (Eff.box (v := .agg ⟨[sl bz oz n cz, .int .i64 0, .int .i64 (-1)]⟩) rfl rfl) rfl fun b5 => ?_
  refine TL.val (Yl.assign rfl) rfl ?_
  refine TL.next ?_
  exact TC.back1 (σ := Nat) b5 rfl rfl (fun _ h => h)
theorem slice_tail {z lz : List UInt8} {oz cz i : Nat} (h1 : z.length ≤ cz) (h2 : oz + cz ≤ lz.length) (h3 : (lz.drop oz).take z.length = z) (hi : i < z.length) : (lz.drop (adv oz cz i 1)).take (z.length - i) = z.drop i := by
  rcases adv_off (off := oz) (show i ≤ cz by omega) with h | ⟨h, hc⟩
  · rw [h, ← List.drop_drop, ← List.drop_take, h3]
  · omega
theorem bytEof_q (v : Value) (z : List UInt8) (bz oz cz : Nat) (i : Nat) (hi : z.length ≤ i) (hi2 : i ≤ 1099511627776) (b : Nat) (p : Value) (ea : Addr) : Quiet Tryz.prog 136 #[pt b 0, p] [(b, brd (sl bz oz z.length cz) i), eofB ea] (.tuple #[.int .i64 0, eofV ea]) := by
  refine Quiet.of_gives fun g Fr => ?_
  refine Gives.enter Tryz.func136 rfl Tryz.ntmps136 rfl ?_
  refine TC.seq ?_
  refine TC.region ?_
  refine TL.val (Yl.assign rfl) rfl ?_
  refine TL.val (Yl.assign rfl) rfl ?_
  refine TL.next ?_
  refine TC.seq ?_
  refine TC.seq ?_
  refine TC.draws [] _ mixed (by kernel_rfl) rfl (fun _ h => h) ?_
  refine TA.pure 0 rfl (by kernel_rfl) (Yl.move rfl) rfl ?_
  refine TA.pure 1 rfl (by kernel_rfl) (Yl.nilCheckP rfl) rfl ?_
  refine TA.pure 2 rfl (by kernel_rfl) (Yl.fieldAddr (k := 2) (m := 1) (o := 1) Tryz.underlying173 rfl sz2 rfl rfl) rfl ?_
  refine TA.load 3 rfl (by kernel_rfl) (Yl.load1 (v := .int .i64 (i : Int)) Tryz.underlying2 rfl rfl (by repeat (first | exact Foc.head | apply Foc.tail | apply Foc.right)) rfl) rfl ?_
  refine TA.pure 4 rfl (by kernel_rfl) (Yl.move rfl) rfl ?_
  refine TA.pure 5 rfl (by kernel_rfl) (Yl.nilCheckP rfl) rfl ?_
  refine TA.pure 6 rfl (by kernel_rfl) (Yl.fieldAddr (k := 40) (m := 0) (o := 0) Tryz.underlying173 rfl sz40 rfl rfl) rfl ?_
  refine TA.load 7 rfl (by kernel_rfl) (Yl.load1 (v := sl bz oz z.length cz) Tryz.underlying40 rfl rfl (by repeat (first | exact Foc.head | apply Foc.tail | apply Foc.right)) rfl) rfl ?_
  refine TA.pure 8 rfl (by kernel_rfl) (Yl.lenL Tryz.underlying40 rfl) rfl ?_
  refine TA.pure 9 rfl (by kernel_rfl) (Yl.geq rfl rfl (decide_eq_true (by omega))) rfl ?_
  refine TA.next (by kernel_rfl) ?_
  refine TC.yes rfl ?_
  refine TC.seq ?_
  refine TC.draws [] _ mixed (by kernel_rfl) rfl (fun _ h => h) ?_
  refine TA.load 0 rfl (by kernel_rfl) (Yl.load1 (v := eofV ea) Tryz.underlying58 rfl rfl (by repeat (first | exact Foc.head | apply Foc.tail | apply Foc.right)) rfl) rfl ?_
  refine TA.pure 1 rfl (by kernel_rfl) (Yl.assign rfl) rfl ?_
  refine TA.pure 2 rfl (by kernel_rfl) (Yl.assign rfl) rfl ?_
  refine TA.next (by kernel_rfl) ?_
  exact TC.back2 () rfl rfl rfl rfl (fun _ h => h.sub (by repeat (first | exact List.Sublist.refl _ | exact List.sublist_append_right _ _ | refine List.Sublist.cons_cons _ ?_ | refine List.Sublist.cons _ ?_)))
theorem bytRead_g (te : TypeId) (z lz l : List UInt8) (bz oz cz : Nat) (fz : Nat × Nat) (hz1 : z.length ≤ cz) (hz2 : oz + cz ≤ lz.length) (hz3 : (lz.drop oz).take z.length = z) (i : Nat) (hi : i < z.length) (hs : z.length ≤ 1099511627776) (b bp off m cap : Nat) (hm : off + m ≤ l.length) (g : World) (Fr : HL) : Gives Tryz.prog 136 #[pt b 0, sl bp off m cap] g ((b, brd (sl bz oz z.length cz) i) :: (bz, .cells ⟨bV lz⟩ 5 fz) :: (bp, oC (bV l) te) :: Fr) Unit (fun _ => .tuple #[.int .i64 ((rdN z.length i m : Nat) : Int), .nilIface])
    (fun _ => (b, brd (sl bz oz z.length cz) (i + rdN z.length i m)) :: (bz, .cells ⟨bV lz⟩ 5 fz) :: (bp, oC (bV (layB l off ((z.drop i).take (rdN z.length i m)))) te) :: Fr) := by
  refine Gives.enter Tryz.func136 rfl Tryz.ntmps136 rfl ?_
  refine TC.seq ?_
  refine TC.region ?_
  refine TL.val (Yl.assign rfl) rfl ?_
  refine TL.val (Yl.assign rfl) rfl ?_
  refine TL.next ?_
  refine TC.seq ?_
  refine TC.seq ?_
  refine TC.draws [] _ mixed (by kernel_rfl) rfl (fun _ h => h) ?_
  refine TA.pure 0 rfl (by kernel_rfl) (Yl.move rfl) rfl ?_
  refine TA.pure 1 rfl (by kernel_rfl) (Yl.nilCheckP rfl) rfl ?_
  refine TA.pure 2 rfl (by kernel_rfl) (Yl.fieldAddr (k := 2) (m := 1) (o := 1) Tryz.underlying173 rfl sz2 rfl rfl) rfl ?_
  refine TA.load 3 rfl (by kernel_rfl) (Yl.load1 (v := .int .i64 (i : Int)) Tryz.underlying2 rfl rfl (by repeat (first | exact Foc.head | apply Foc.tail | apply Foc.right)) rfl) rfl ?_
  refine TA.pure 4 rfl (by kernel_rfl) (Yl.move rfl) rfl ?_
  refine TA.pure 5 rfl (by kernel_rfl) (Yl.nilCheckP rfl) rfl ?_
  refine TA.pure 6 rfl (by kernel_rfl) (Yl.fieldAddr (k := 40) (m := 0) (o := 0) Tryz.underlying173 rfl sz40 rfl rfl) rfl ?_
  refine TA.load 7 rfl (by kernel_rfl) (Yl.load1 (v := sl bz oz z.length cz) Tryz.underlying40 rfl rfl (by repeat (first | exact Foc.head | apply Foc.tail | apply Foc.right)) rfl) rfl ?_
  refine TA.pure 8 rfl (by kernel_rfl) (Yl.lenL Tryz.underlying40 rfl) rfl ?_
  refine TA.pure 9 rfl (by kernel_rfl) (Yl.geq rfl rfl (decide_eq_false (by omega))) rfl ?_
  refine TA.next (by kernel_rfl) ?_
  refine TC.no rfl ?_
  refine TC.skip_next ?_
  refine TC.seq ?_
  refine TC.region ?_
  refine TL.val (Yl.move rfl) rfl ?_
  refine TL.val (Yl.nilCheckP rfl) rfl ?_
  refine TL.val (Yl.fieldAddr (k := 3) (m := 2) (o := 2) Tryz.underlying173 rfl sz3 rfl rfl) rfl ?_
  refine TL.skp (Skp.store1 (cs' := [sl bz oz z.length cz, .int .i64 (i : Int), .int .i64 (-1)]) sz3 rfl rfl rfl (by repeat (first | exact Foc.head | apply Foc.tail | apply Foc.right)) (Nat.le_of_ble_eq_true rfl) rfl) ?_
  refine TL.next ?_
  refine TC.seq ?_
  refine TC.draws [] ((b, brd (sl bz oz z.length cz) i) :: Fr) mixed (by kernel_rfl) rfl (fun _ h => h.sub (by repeat (first | exact List.Sublist.refl _ | exact List.sublist_append_right _ _ | refine List.Sublist.cons_cons _ ?_ | refine List.Sublist.cons _ ?_))) ?_
  refine TA.pure 0 rfl (by kernel_rfl) (Yl.move rfl) rfl ?_
  refine TA.pure 1 rfl (by kernel_rfl) (Yl.move rfl) rfl ?_
  refine TA.pure 2 rfl (by kernel_rfl) (Yl.nilCheckP rfl) rfl ?_
  refine TA.pure 3 rfl (by kernel_rfl) (Yl.fieldAddr (k := 40) (m := 0) (o := 0) Tryz.underlying173 rfl sz40 rfl rfl) rfl ?_
  refine TA.load 4 rfl (by kernel_rfl) (Yl.load1 (v := sl bz oz z.length cz) Tryz.underlying40 rfl rfl (by repeat (first | exact Foc.head | apply Foc.tail | apply Foc.right)) rfl) rfl ?_
  refine TA.pure 5 rfl (by kernel_rfl) (Yl.move rfl) rfl ?_
  refine TA.pure 6 rfl (by kernel_rfl) (Yl.nilCheckP rfl) rfl ?_
  refine TA.pure 7 rfl (by kernel_rfl) (Yl.fieldAddr (k := 2) (m := 1) (o := 1) Tryz.underlying173 rfl sz2 rfl rfl) rfl ?_
  refine TA.load 8 rfl (by kernel_rfl) (Yl.load1 (v := .int .i64 (i : Int)) Tryz.underlying2 rfl rfl (by repeat (first | exact Foc.head | apply Foc.tail | apply Foc.right)) rfl) rfl ?_
  refine TA.pure 9 rfl (by kernel_rfl) (Yl.slcL (i := i) Tryz.underlying40 sz5 rfl rfl rfl (by omega)) rfl ?_
  refine TA.one 10 (by kernel_rfl) ?_
  refine Up.eff rfl rfl (Eff.copyTB (news := z.drop i) (k := rdN z.length i m) Tryz.underlying40 sz5 rfl rfl (by repeat (first | exact Foc.head | apply Foc.tail | apply Foc.right)) (Src.slB (by repeat (first | exact Foc.head | apply Foc.tail | apply Foc.right)) (slice_tail hz1 hz2 hz3 hi)) (by rw [List.length_drop]) rfl (by have := rdN_r z.length i m; omega)) rfl (fun _ => .inr (fun _ h => h.sub (by repeat (first | exact List.Sublist.refl _ | exact List.sublist_append_right _ _ | refine List.Sublist.cons_cons _ ?_ | refine List.Sublist.cons _ ?_)))) fun _ => ?_
  refine TA.pure 11 rfl (by kernel_rfl) (Yl.assign rfl) rfl ?_
  refine TA.next (by kernel_rfl) ?_
  refine TC.seq ?_
  refine TC.region ?_
  refine TL.val (Yl.move rfl) rfl ?_
  refine TL.val (Yl.nilCheckP rfl) rfl ?_
  refine TL.val (Yl.fieldAddr (k := 2) (m := 1) (o := 1) Tryz.underlying173 rfl sz2 rfl rfl) rfl ?_
  refine TL.val (Yl.load1 (v := .int .i64 (i : Int)) Tryz.underlying2 rfl rfl (by repeat (first | exact Foc.head | apply Foc.tail | apply Foc.right)) rfl) rfl ?_
  refine TL.val (Yl.move rfl) rfl ?_
  refine TL.val (Yl.add (r := ((i + rdN z.length i m : Nat) : Int)) rfl rfl ((wI (by have := rdN_l z.length i m; omega)).trans (by omega))) rfl ?_
  refine TL.val (Yl.nilCheckP rfl) rfl ?_
  refine TL.val (Yl.fieldAddr (k := 2) (m := 1) (o := 1) Tryz.underlying173 rfl sz2 rfl rfl) rfl ?_
  refine TL.skp (Skp.store1 (cs' := [sl bz oz z.length cz, .int .i64 ((i + rdN z.length i m : Nat) : Int), .int .i64 (-1)]) sz2 rfl rfl rfl (by repeat (first | exact Foc.head | apply Foc.tail | apply Foc.right)) (Nat.le_of_ble_eq_true rfl) rfl) ?_
  refine TL.next ?_
  exact TC.back2 () rfl rfl rfl rfl (fun _ h => h.sub (by repeat (first | exact List.Sublist.refl _ | exact List.sublist_append_right _ _ | refine List.Sublist.cons_cons _ ?_ | refine List.Sublist.cons _ ?_)))
end Go.Proofs.YtlhncphipfkkjaaGreatDoor

/- Readers as one interface: the laws that the walks of io share. -/
namespace Go.Proofs.YtlhncphipfkkjaaGreatDoor
open Go

theorem Gives.map {P : Program} {f : FuncId} {args : Array Value} {g : World} {H : HL} {σ τ : Type} {v : σ → Value} {v' : τ → Value} {H1 : σ → HL} {H2 : τ → HL} (φ : σ → τ) (hv : ∀ s, v s = v' (φ s)) (hH : ∀ s w, Own g w (H1 s) → Own g w (H2 (φ s)))
    (h : Gives P f args g H σ v H1) : Gives P f args g H τ v' H2 :=
  fun w ho => (h w ho).mono fun _ _ ⟨s, he, ho'⟩ => ⟨φ s, by rw [he, hv], hH s _ ho'⟩

theorem layB_app {l a b : List UInt8} {off : Nat} (h : off + a.length + b.length ≤ l.length) : layB (layB l off a) (off + a.length) b = layB l off (a ++ b) := by
  unfold layB
  have h1 : (l.take off ++ a).length = off + a.length := by simp; omega
  rw [List.take_append_of_le_length (by rw [h1]; exact Nat.le_refl _), List.take_of_length_le (by rw [h1]; exact Nat.le_refl _)]
  have h2 : (l.take off ++ a ++ l.drop (off + a.length)).drop (off + a.length + b.length) = l.drop (off + (a ++ b).length) := by
    rw [← List.drop_drop, show off + a.length = (l.take off ++ a).length from h1.symm, List.drop_left, h1, List.drop_drop, List.length_append]
    congr 1; omega
  rw [h2]
  simp [List.append_assoc]
theorem layB_nil {l : List UInt8} {off : Nat} (h : off ≤ l.length) : layB l off [] = l := by simp [layB]
theorem take_more (d : List UInt8) (n j k : Nat) : (d.drop n).take j ++ (d.drop (n + j)).take k = (d.drop n).take (j + k) := by
  rw [List.take_add, List.drop_drop]
theorem take_len {d : List UInt8} {n j : Nat} (h : n + j ≤ d.length) : ((d.drop n).take j).length = j := by
  rw [List.length_take, List.length_drop]; omega

/-- the reader over bytes -/
noncomputable def bytR (ea : Addr) (z lz : List UInt8) (b bz oz cz : Nat) (fz : Nat × Nat) (h1 : z.length ≤ cz) (h2 : oz + cz ≤ lz.length) (h3 : (lz.drop oz).take z.length = z) (hs : z.length ≤ 1099511627776) : Rdr ea z where
  t := 107
  v := pt b 0
  rv := pt b 0
  f := 136
  fn := _
  c := _
  hf := Tryz.func136
  hb := rfl
  hn := by kernel_rfl
  hm := fun w => by kernel_rfl
  ha := fun w => by kernel_rfl
  St := fun _ => Unit
  heap := fun n _ => [(b, brd (sl bz oz z.length cz) n), (bz, .cells ⟨bV lz⟩ 5 fz)]
  read := fun n _ hn te l bp off m cap hm _ hle g Fr =>
    have hk1 := rdN_l z.length n m
    have hk2 := rdN_r z.length n m
    have hk3 : 1 ≤ rdN z.length n m := by unfold rdN; exact Nat.le_min.2 ⟨by omega, hm⟩
    Gives.map (fun _ => ⟨⟨rdN z.length n m, hk3, hk2, by omega⟩, ()⟩) (fun _ => rfl) (fun _ _ h => h) (bytRead_g te z lz l bz oz cz fz h1 h2 h3 n hn hs b bp off m cap hle g _)
  eof := fun _ te l bp off m cap hm _ hle g Fr =>
    (Quiet.pull (R := [(bz, .cells ⟨bV lz⟩ 5 fz), (bp, oC (bV l) te)] ++ Fr) (.cons .head (.cons (.tail (.tail .head)) .nil)) (bytEof_q (pt b 0) z bz oz cz z.length (Nat.le_refl _) hs b (sl bp off m cap) ea)).gives (fun _ h => h)
end Go.Proofs.YtlhncphipfkkjaaGreatDoor

namespace Go.Proofs.YtlhncphipfkkjaaGreatDoor
open Go
theorem readAll_g {ea : Addr} {d : List UInt8} (R : Rdr ea d) (n : Nat) (s : R.St n) (te : TypeId) (l : List UInt8) (bp off m cap : Nat) (hm : 0 < m) (hcap : m ≤ cap) (hle : off + m ≤ l.length) (hd : n + m ≤ d.length) (hdl : d.length ≤ 1099511627776) (hll : l.length ≤ 1099511627776) (g : World) (Fr : HL) : Gives Tryz.prog 62 #[.iface R.t R.v, sl bp off m cap, .int .i64 (m : Int)] g (R.heap n s ++ ((bp, oC (bV l) te) :: eofB ea :: Fr)) (R.St (n + m)) (fun _ => .tuple #[.int .i64 (m : Int), .nilIface])
    (fun s => R.heap (n + m) s ++ ((bp, oC (bV (layB l off ((d.drop n).take m))) te) :: eofB ea :: Fr)) := by
  refine Gives.enter Tryz.func62 rfl Tryz.ntmps62 rfl ?_
  refine TC.seq ?_
  refine TC.region ?_
  refine TL.val (Yl.assign rfl) rfl ?_
  refine TL.val (Yl.assign rfl) rfl ?_
  refine TL.next ?_
  refine TC.seq ?_
  refine TC.seq ?_
  refine TC.region ?_
  refine TL.val (Yl.move rfl) rfl ?_
  refine TL.val (Yl.lenL Tryz.underlying40 rfl) rfl ?_
  refine TL.val (Yl.move rfl) rfl ?_
  refine TL.val (Yl.lss rfl rfl (decide_eq_false (by omega))) rfl ?_
  refine TL.next ?_
  refine TC.no rfl ?_
  refine TC.skip_next ?_
  refine TC.seq ?_
  refine TC.block ?_
  refine TC.loopI (σ := (i : Nat) × R.St i) (fun p => [(0, .iface R.t R.v), (1, sl bp off m cap), (2, .int .i64 (m : Int)), (6, .int .i64 ((p.1 : Int) - n)), (7, .nilIface)]) (fun p => R.heap p.1 p.2 ++ ((bp, oC (bV (layB l off ((d.drop n).take (p.1 - n)))) te) :: eofB ea :: Fr)) (fun p => n ≤ p.1 ∧ p.1 ≤ n + m) (fun p => n + m - p.1) ⟨n, s⟩ ⟨rfl, rfl, rfl, (congrArg (fun z => some (Value.int .i64 z)) (by show (0 : Int) = (n : Int) - n; omega)), rfl, trivial⟩ (fun _ h => by show Own g _ (R.heap n s ++ ((bp, oC (bV (layB l off ((d.drop n).take (n - n)))) te) :: eofB ea :: Fr)); rw [Nat.sub_self, List.take_zero, layB_nil (by omega)]; exact h) ⟨Nat.le_refl _, Nat.le_add_right _ _⟩ (fun p hp => ?_)
  obtain ⟨i, s⟩ := p
  obtain ⟨h1, h2⟩ := hp
  dsimp only at h1 h2 ⊢
  refine TC.seq ?_
  refine TC.seq ?_
  by_cases hlt : i < n + m
  · refine TC.region ?_
    refine TL.val (Yl.move rfl) rfl ?_
    refine TL.val (Yl.move rfl) rfl ?_
    refine TL.val (Yl.lss rfl rfl (decide_eq_true (by omega))) rfl ?_
    refine TL.val (Yl.move rfl) rfl ?_
    refine TL.yes rfl rfl rfl ?_
    refine TL.val (Yl.move rfl) rfl ?_
    refine TL.yes rfl rfl rfl ?_
    refine TL.val (Yl.eqlNilN Tryz.underlying58 rfl rfl) rfl ?_
    refine TL.val (Yl.pickT rfl rfl) rfl ?_
    refine TL.next ?_
    refine TC.yes rfl ?_
    refine TC.skip_next ?_
    refine TC.block ?_
    refine TC.seq ?_
    refine TC.region ?_
    refine TL.val (Yl.assign rfl) rfl ?_
    refine TL.next ?_
    refine TC.seq ?_
    have hadv : adv off cap (i - n) 1 = off + (i - n) := by unfold adv; rw [if_neg (by omega), Nat.mul_one]
    have hll : (layB l off ((d.drop n).take (i - n))).length = l.length := layB_length (by rw [take_len (by omega)]; omega)
    refine TC.draws [] Fr mixed (by kernel_rfl) rfl (fun _ h => h.sub (List.Sublist.trans (.cons _ (.cons _ (.refl _))) (List.sublist_append_right _ _))) ?_
    refine TA.pure 0 rfl (by kernel_rfl) (Yl.move rfl) rfl ?_
    refine TA.pure 1 rfl (by kernel_rfl) (Yl.move rfl) rfl ?_
    refine TA.pure 2 rfl (by kernel_rfl) (Yl.move rfl) rfl ?_
    refine TA.pure 3 rfl (by kernel_rfl) (Yl.slcL (i := i - n) Tryz.underlying40 sz5 rfl rfl (by omega) (by omega)) rfl ?_
    rw [hadv]
    refine TA.pure 4 rfl (by kernel_rfl) (Yl.func (xs := [_]) (ys := []) (vs := [_]) (us := []) ⟨rfl, trivial⟩ trivial) rfl ?_
    refine TA.pure 5 rfl (by kernel_rfl) (Yl.nilCheckM rfl R.ha) rfl ?_
    refine TA.pure 6 rfl (by kernel_rfl) (Yl.move rfl) rfl ?_
    refine TA.one 7 (by kernel_rfl) ?_
    refine Up.call rfl rfl (Cll.inv (xs := [_]) (vs := [_]) R.hf R.hb R.hn R.hm rfl ⟨rfl, trivial⟩) rfl (R.read i s (by omega) te (layB l off ((d.drop n).take (i - n))) bp (off + (i - n)) (m - (i - n)) (cap - (i - n)) (by omega) (by omega) (by omega) g Fr) (fun _ => .inr (fun _ h => h.sub (List.Sublist.trans (.cons _ (.cons _ (.refl _))) (List.sublist_append_right _ _)))) fun q => ?_
    have hk1 := q.1.2.1
    have hk2 := q.1.2.2.1
    have hk3 := q.1.2.2.2
    have hlay : layB (layB l off ((d.drop n).take (i - n))) (off + (i - n)) ((d.drop i).take q.1.1) = layB l off ((d.drop n).take (i + q.1.1 - n)) := by
      have e1 : ((d.drop n).take (i - n)).length = i - n := take_len (by omega)
      have e2 : ((d.drop i).take q.1.1).length = q.1.1 := take_len (by omega)
      have e3 := layB_app (l := l) (a := (d.drop n).take (i - n)) (b := (d.drop i).take q.1.1) (off := off) (by omega)
      rw [e1] at e3
      rw [e3]
      have e4 := take_more d n (i - n) q.1.1
      rw [show n + (i - n) = i by omega, show i - n + q.1.1 = i + q.1.1 - n by omega] at e4
      rw [e4]
    refine TA.pure 8 rfl (by kernel_rfl) (Yl.move rfl) rfl ?_
    refine TA.pure 9 rfl (by kernel_rfl) (Yl.extract rfl rfl) rfl ?_
    refine TA.pure 10 rfl (by kernel_rfl) (Yl.extract rfl rfl) rfl ?_
    refine TA.pure 11 rfl (by kernel_rfl) (Yl.assign rfl) rfl ?_
    refine TA.pure 12 rfl (by kernel_rfl) (Yl.assign rfl) rfl ?_
    refine TA.next (by kernel_rfl) ?_
    refine TC.region ?_
    refine TL.val (Yl.move rfl) rfl ?_
    refine TL.val (Yl.move rfl) rfl ?_
    refine TL.val (Yl.add rfl rfl (wI (by omega))) rfl ?_
    refine TL.val (Yl.assign rfl) rfl ?_
    exact TL.done (Inv.again ⟨i + q.1.1, q.2⟩ ⟨by show n ≤ i + q.1.1; omega, by show i + q.1.1 ≤ n + m; omega⟩ (by show n + m - (i + q.1.1) < n + m - i; omega) ⟨rfl, rfl, rfl, (congrArg (fun z => some (Value.int .i64 z)) (by show _ = ((i + q.1.1 : Nat) : Int) - n; omega)), rfl, trivial⟩ (fun _ h => by rw [hlay] at h; exact h))
  · refine TC.region ?_
    refine TL.val (Yl.move rfl) rfl ?_
    refine TL.val (Yl.move rfl) rfl ?_
    refine TL.val (Yl.lss rfl rfl (decide_eq_false (by omega))) rfl ?_
    refine TL.val (Yl.move rfl) rfl ?_
    refine TL.no rfl rfl rfl rfl rfl ?_
    refine TL.no rfl rfl rfl rfl rfl ?_
    refine TL.val (Yl.pickF rfl rfl) rfl ?_
    refine TL.next ?_
    refine TC.no rfl ?_
    refine TC.exit_next rfl ?_
    refine TC.seq ?_
    refine TC.seq ?_
    obtain rfl : i = n + m := by omega
    refine TC.region ?_
    refine TL.val (Yl.move rfl) rfl ?_
    refine TL.val (Yl.move rfl) rfl ?_
    refine TL.val (Yl.geq rfl rfl (decide_eq_true (by omega))) rfl ?_
    refine TL.next ?_
    refine TC.yes rfl ?_
    refine TC.region ?_
    refine TL.val (Yl.assign rfl) rfl ?_
    refine TL.next ?_
    exact TC.back2 s rfl rfl rfl (by rw [show ((n + m : Nat) : Int) - n = (m : Int) by omega]) (fun _ h => by rw [show n + m - n = m by omega] at h; exact h)
theorem readAllEof_g {ea : Addr} {d : List UInt8} (R : Rdr ea d) (s : R.St d.length) (te : TypeId) (l : List UInt8) (bp off m cap : Nat) (hm : 0 < m) (hcap : m ≤ cap) (hle : off + m ≤ l.length) (g : World) (Fr : HL) : Gives Tryz.prog 62 #[.iface R.t R.v, sl bp off m cap, .int .i64 (m : Int)] g (R.heap d.length s ++ ((bp, oC (bV l) te) :: eofB ea :: Fr)) (R.St d.length) (fun _ => .tuple #[.int .i64 0, eofV ea])
    (fun s => R.heap d.length s ++ ((bp, oC (bV l) te) :: eofB ea :: Fr)) := by
  refine Gives.enter Tryz.func62 rfl Tryz.ntmps62 rfl ?_
  refine TC.seq ?_
  refine TC.region ?_
  refine TL.val (Yl.assign rfl) rfl ?_
  refine TL.val (Yl.assign rfl) rfl ?_
  refine TL.next ?_
  refine TC.seq ?_
  refine TC.seq ?_
  refine TC.region ?_
  refine TL.val (Yl.move rfl) rfl ?_
  refine TL.val (Yl.lenL Tryz.underlying40 rfl) rfl ?_
  refine TL.val (Yl.move rfl) rfl ?_
  refine TL.val (Yl.lss rfl rfl (decide_eq_false (by omega))) rfl ?_
  refine TL.next ?_
  refine TC.no rfl ?_
  refine TC.skip_next ?_
  refine TC.seq ?_
  refine TC.block ?_
  refine TC.loopI (σ := Bool × R.St d.length) (fun p => [(0, .iface R.t R.v), (1, sl bp off m cap), (2, .int .i64 (m : Int)), (6, .int .i64 0), (7, (if p.1 then eofV ea else .nilIface))]) (fun p => R.heap d.length p.2 ++ ((bp, oC (bV l) te) :: eofB ea :: Fr)) (fun p => True) (fun p => (if p.1 then 0 else 1)) (false, s) ⟨rfl, rfl, rfl, rfl, rfl, trivial⟩ (fun _ h => h) trivial (fun p hp => ?_)
  obtain ⟨b, s⟩ := p
  refine TC.seq ?_
  refine TC.seq ?_
  by_cases hb : b = true
  · subst hb
    refine TC.region ?_
    refine TL.val (Yl.move rfl) rfl ?_
    refine TL.val (Yl.move rfl) rfl ?_
    refine TL.val (Yl.lss rfl rfl (decide_eq_true (by omega))) rfl ?_
    refine TL.val (Yl.move rfl) rfl ?_
    refine TL.yes rfl rfl rfl ?_
    refine TL.val (Yl.move rfl) rfl ?_
    refine TL.yes rfl rfl rfl ?_
    refine TL.val (Yl.eqlNilI Tryz.underlying58 rfl rfl) rfl ?_
    refine TL.val (Yl.pickT rfl rfl) rfl ?_
    refine TL.next ?_
    refine TC.no rfl ?_
    refine TC.exit_next rfl ?_
    refine TC.seq ?_
    refine TC.seq ?_
    refine TC.region ?_
    refine TL.val (Yl.move rfl) rfl ?_
    refine TL.val (Yl.move rfl) rfl ?_
    refine TL.val (Yl.geq rfl rfl (decide_eq_false (by omega))) rfl ?_
    refine TL.next ?_
    refine TC.no rfl ?_
    refine TC.seq ?_
    refine TC.region ?_
    refine TL.val (Yl.move rfl) rfl ?_
    refine TL.val (Yl.gtr rfl rfl (decide_eq_false (by omega))) rfl ?_
    refine TL.val (Yl.move rfl) rfl ?_
    refine TL.no rfl rfl rfl rfl rfl ?_
    refine TL.no rfl rfl rfl rfl rfl ?_
    refine TL.no rfl rfl rfl rfl rfl ?_
    refine TL.val (Yl.pickF rfl rfl) rfl ?_
    refine TL.next ?_
    refine TC.no rfl ?_
    refine TC.skip_next ?_
    exact TC.back2 s rfl rfl rfl rfl (fun _ h => h)
  · replace hb : b = false := by cases b <;> simp_all
    
    have hbb := hb
    subst hbb
    refine TC.region ?_
    refine TL.val (Yl.move rfl) rfl ?_
    refine TL.val (Yl.move rfl) rfl ?_
    refine TL.val (Yl.lss rfl rfl (decide_eq_true (by omega))) rfl ?_
    refine TL.val (Yl.move rfl) rfl ?_
    refine TL.yes rfl rfl rfl ?_
    refine TL.val (Yl.move rfl) rfl ?_
    refine TL.yes rfl rfl rfl ?_
    refine TL.val (Yl.eqlNilN Tryz.underlying58 rfl rfl) rfl ?_
    refine TL.val (Yl.pickT rfl rfl) rfl ?_
    refine TL.next ?_
    refine TC.yes rfl ?_
    refine TC.skip_next ?_
    refine TC.block ?_
    refine TC.seq ?_
    refine TC.region ?_
    refine TL.val (Yl.assign rfl) rfl ?_
    refine TL.next ?_
    refine TC.seq ?_
    have hadv : adv off cap 0 1 = off := by unfold adv; split <;> simp
    refine TC.draws [] Fr mixed (by kernel_rfl) rfl (fun _ h => h.sub (List.Sublist.trans (.cons _ (.cons _ (.refl _))) (List.sublist_append_right _ _))) ?_
    refine TA.pure 0 rfl (by kernel_rfl) (Yl.move rfl) rfl ?_
    refine TA.pure 1 rfl (by kernel_rfl) (Yl.move rfl) rfl ?_
    refine TA.pure 2 rfl (by kernel_rfl) (Yl.move rfl) rfl ?_
    refine TA.pure 3 rfl (by kernel_rfl) (Yl.slcL (i := 0) Tryz.underlying40 sz5 rfl rfl rfl (by omega)) rfl ?_
    rw [hadv, Nat.sub_zero, Nat.sub_zero]
    refine TA.pure 4 rfl (by kernel_rfl) (Yl.func (xs := [_]) (ys := []) (vs := [_]) (us := []) ⟨rfl, trivial⟩ trivial) rfl ?_
    refine TA.pure 5 rfl (by kernel_rfl) (Yl.nilCheckM rfl R.ha) rfl ?_
    refine TA.pure 6 rfl (by kernel_rfl) (Yl.move rfl) rfl ?_
    refine TA.one 7 (by kernel_rfl) ?_
    refine Up.call rfl rfl (Cll.inv (xs := [_]) (vs := [_]) R.hf R.hb R.hn R.hm rfl ⟨rfl, trivial⟩) rfl (R.eof s te l bp off m cap hm hcap hle g Fr) (fun _ => .inr (fun _ h => h.sub (List.Sublist.trans (.cons _ (.cons _ (.refl _))) (List.sublist_append_right _ _)))) fun q => ?_
    refine TA.pure 8 rfl (by kernel_rfl) (Yl.move rfl) rfl ?_
    refine TA.pure 9 rfl (by kernel_rfl) (Yl.extract rfl rfl) rfl ?_
    refine TA.pure 10 rfl (by kernel_rfl) (Yl.extract rfl rfl) rfl ?_
    refine TA.pure 11 rfl (by kernel_rfl) (Yl.assign rfl) rfl ?_
    refine TA.pure 12 rfl (by kernel_rfl) (Yl.assign rfl) rfl ?_
    refine TA.next (by kernel_rfl) ?_
    refine TC.region ?_
    refine TL.val (Yl.move rfl) rfl ?_
    refine TL.val (Yl.move rfl) rfl ?_
    refine TL.val (Yl.add rfl rfl (wI (by omega))) rfl ?_
    refine TL.val (Yl.assign rfl) rfl ?_
    exact TL.done (Inv.again (true, q) trivial Nat.zero_lt_one ⟨rfl, rfl, rfl, rfl, rfl, trivial⟩ (fun _ h => h))
theorem readFull_g {ea : Addr} {d : List UInt8} (R : Rdr ea d) (n : Nat) (s : R.St n) (te : TypeId) (l : List UInt8) (bp off m cap : Nat) (hm : 0 < m) (hcap : m ≤ cap) (hle : off + m ≤ l.length) (hd : n + m ≤ d.length) (hdl : d.length ≤ 1099511627776) (hll : l.length ≤ 1099511627776) (g : World) (Fr : HL) : Gives Tryz.prog 49 #[.iface R.t R.v, sl bp off m cap] g (R.heap n s ++ ((bp, oC (bV l) te) :: eofB ea :: Fr)) (R.St (n + m)) (fun _ => .tuple #[.int .i64 (m : Int), .nilIface])
    (fun s => R.heap (n + m) s ++ ((bp, oC (bV (layB l off ((d.drop n).take m))) te) :: eofB ea :: Fr)) := by
  refine Gives.enter Tryz.func49 rfl Tryz.ntmps49 rfl ?_
  refine TC.seq ?_
  refine TC.region ?_
  refine TL.val (Yl.assign rfl) rfl ?_
  refine TL.val (Yl.assign rfl) rfl ?_
  refine TL.next ?_
  refine TC.seq ?_
  refine TC.region ?_
  refine TL.val (Yl.move rfl) rfl ?_
  refine TL.val (Yl.move rfl) rfl ?_
  refine TL.val (Yl.move rfl) rfl ?_
  refine TL.val (Yl.lenL Tryz.underlying40 rfl) rfl ?_
  refine TL.call (Cll.func (xs := [_, _, _]) (vs := [_, _, _]) Tryz.func62 rfl (by kernel_rfl) ⟨rfl, rfl, rfl, trivial⟩) rfl (readAll_g R n s te l bp off m cap hm hcap hle hd hdl hll g Fr) fun q => ?_
  refine TL.val (Yl.extract rfl rfl) rfl ?_
  refine TL.val (Yl.extract rfl rfl) rfl ?_
  refine TL.val (Yl.assign rfl) rfl ?_
  refine TL.val (Yl.assign rfl) rfl ?_
  refine TL.next ?_
  exact TC.back2 q rfl rfl rfl rfl (fun _ h => h)
theorem readFullEof_g {ea : Addr} {d : List UInt8} (R : Rdr ea d) (s : R.St d.length) (te : TypeId) (l : List UInt8) (bp off m cap : Nat) (hm : 0 < m) (hcap : m ≤ cap) (hle : off + m ≤ l.length) (g : World) (Fr : HL) : Gives Tryz.prog 49 #[.iface R.t R.v, sl bp off m cap] g (R.heap d.length s ++ ((bp, oC (bV l) te) :: eofB ea :: Fr)) (R.St d.length) (fun _ => .tuple #[.int .i64 0, eofV ea])
    (fun s => R.heap d.length s ++ ((bp, oC (bV l) te) :: eofB ea :: Fr)) := by
  refine Gives.enter Tryz.func49 rfl Tryz.ntmps49 rfl ?_
  refine TC.seq ?_
  refine TC.region ?_
  refine TL.val (Yl.assign rfl) rfl ?_
  refine TL.val (Yl.assign rfl) rfl ?_
  refine TL.next ?_
  refine TC.seq ?_
  refine TC.region ?_
  refine TL.val (Yl.move rfl) rfl ?_
  refine TL.val (Yl.move rfl) rfl ?_
  refine TL.val (Yl.move rfl) rfl ?_
  refine TL.val (Yl.lenL Tryz.underlying40 rfl) rfl ?_
  refine TL.call (Cll.func (xs := [_, _, _]) (vs := [_, _, _]) Tryz.func62 rfl (by kernel_rfl) ⟨rfl, rfl, rfl, trivial⟩) rfl (readAllEof_g R s te l bp off m cap hm hcap hle g Fr) fun q => ?_
  refine TL.val (Yl.extract rfl rfl) rfl ?_
  refine TL.val (Yl.extract rfl rfl) rfl ?_
  refine TL.val (Yl.assign rfl) rfl ?_
  refine TL.val (Yl.assign rfl) rfl ?_
  refine TL.next ?_
  exact TC.back2 q rfl rfl rfl rfl (fun _ h => h)
end Go.Proofs.YtlhncphipfkkjaaGreatDoor
