/- The contracts of the tar reader's Next; conditions: the reader stands ahead of an entry, or of the end. -/
import Derived.Test.YtlhncphipfkkjaaGreatDoorW09
/- More laws: a nil slice compared with nil. -/
namespace Go.Proofs.YtlhncphipfkkjaaGreatDoor
open Go
variable {P : Program} {F : FL} {H : HL} {g : World} {d : Option Nat} {ty : TypeId} {pos : String} {aft : Array Edge} {gd : Option (Nat × Bool)}
theorem Yl.eqlSlNil {t t' e : TypeId} {x : Operand} {c : Value} (hu : P.underlying t = some (.slice e)) (hx : ev F x = some (.slice none 0 0)) (hc : c = .slice none 0 0) : Yl P F H ⟨d, .binOp .eql t x (.const c) t', ty, pos, aft, gd⟩ (.bool true) := fun a g w hf _ => by
  subst hc
  have hev : a.eval (.const (.slice none 0 0)) = .slice none 0 0 := rfl
  have he : (Op.equalIn (9999 + 1) t (.slice none 0 0) (.slice none 0 0)).run P w = .ok true w := by unfold Op.equalIn; simp [run_underlying hu]
  have he' : (Op.equal t (.slice none 0 0) (.slice none 0 0)).run P w = .ok true w := he
  simp [execOp, hf.eval hx, hev, eqGuard, binOp, he']
variable {ms : Array (String × TypeId)} {t t' : TypeId} {x : Operand}
theorem Yl.neqP {y : Operand} {u e : TypeId} {a : Addr} {z : Nat} (hu : P.underlying t = some (.interface ms)) (hp : P.underlying u = some (.pointer e)) (hz : SizeIs P e (z + 1)) (hc : ((P.info? u).map (·.comparable)) = some true)
    (hx : ev F x = some (.iface u (.pointer (some a)))) (hy : ev F y = some (.iface u (.pointer (some a)))) : Yl P F H ⟨d, .binOp .neq t x y t', ty, pos, aft, gd⟩ (.bool false) := fun _ g w hf _ => by
  obtain ⟨i, hi, hci⟩ := Option.map_eq_some_iff.1 hc
  have h1 : (Op.equalIn (9998 + 1) u (.pointer (some a)) (.pointer (some a))).run P w = .ok true w := by
    unfold Op.equalIn; simp [run_underlying hp, run_sizeOf' hz, sameAddr]
  have he : (Op.equalIn (9999 + 1) t (.iface u (.pointer (some a))) (.iface u (.pointer (some a)))).run P w = .ok true w := by
    unfold Op.equalIn; simp [run_underlying hu, typeInfo, hi, hci, h1]
  have he' : (Op.equal t (.iface u (.pointer (some a))) (.iface u (.pointer (some a)))).run P w = .ok true w := he
  simp [execOp, hf.eval hx, hf.eval hy, eqGuard, binOp, he']
end Go.Proofs.YtlhncphipfkkjaaGreatDoor

namespace Go.Proofs.YtlhncphipfkkjaaGreatDoor
open Go
theorem m228Read (b : Nat) : MethodIs Tryz.prog 228 (pt b 0) "Read" 187 (pt b 0) := fun w => by kernel_rfl
theorem m201Write (v : Value) : MethodIs Tryz.prog 201 v "Write" 186 v := fun w => by kernel_rfl
theorem a201Write : ∀ w, (Go.nilAhead (Tryz.prog.types.size + Made.depth) 201 (.agg ⟨[]⟩) "Write").run Tryz.prog w = .ok (some false) w := fun w => by kernel_rfl
theorem copyLim_g {ea : Addr} {d : List UInt8} (R : Rdr ea d) (hdl : d.length ≤ 1099511627776) (n left : Nat) (s : R.St n) (hd : n + left ≤ d.length) (hl : left ≤ 30000) (bl : Nat) (g : World) (Fr : HL) : Gives Tryz.prog 59 #[.iface 201 (.agg ⟨[]⟩), .iface 228 (pt bl 0), .slice none 0 0] g ((bl, oC [.iface R.t R.v, .int .i64 (left : Int)] 231) :: (R.heap n s ++ (eofB ea :: Fr))) (R.St (n + left)) (fun _ => .tuple #[.int .i64 (left : Int), .nilIface])
    (fun s => (bl, oC [.iface R.t R.v, .int .i64 (((0 : Nat) : Int))] 231) :: (R.heap (n + left) s ++ (eofB ea :: Fr))) := by
  refine Gives.enter Tryz.func59 rfl Tryz.ntmps59 rfl ?_
  refine TC.seq ?_
  refine TC.region ?_
  refine TL.val (Yl.assign rfl) rfl ?_
  refine TL.val (Yl.assign rfl) rfl ?_
  refine TL.next ?_
  refine TC.seq ?_
  refine TC.seq ?_
  refine TC.region ?_
  refine TL.val (Yl.move rfl) rfl ?_
  refine TL.val (Yl.noI1 (n := "WriteTo") Tryz.underlying222 rfl (by kernel_rfl) zr222) rfl ?_
  refine TL.val (Yl.move rfl) rfl ?_
  refine TL.val (Yl.extract rfl rfl) rfl ?_
  refine TL.val (Yl.extract rfl rfl) rfl ?_
  refine TL.val (Yl.assign rfl) rfl ?_
  refine TL.val (Yl.assign rfl) rfl ?_
  refine TL.next ?_
  refine TC.seq ?_
  refine TC.region ?_
  refine TL.val (Yl.move rfl) rfl ?_
  refine TL.next ?_
  refine TC.no rfl ?_
  refine TC.skip_next ?_
  refine TC.seq ?_
  refine TC.seq ?_
  refine TC.region ?_
  refine TL.val (Yl.move rfl) rfl ?_
  refine TL.val (Yl.noI1 (n := "ReadFrom") Tryz.underlying226 rfl (by kernel_rfl) zr226) rfl ?_
  refine TL.val (Yl.move rfl) rfl ?_
  refine TL.val (Yl.extract rfl rfl) rfl ?_
  refine TL.val (Yl.extract rfl rfl) rfl ?_
  refine TL.val (Yl.assign rfl) rfl ?_
  refine TL.val (Yl.assign rfl) rfl ?_
  refine TL.next ?_
  refine TC.seq ?_
  refine TC.region ?_
  refine TL.val (Yl.move rfl) rfl ?_
  refine TL.next ?_
  refine TC.no rfl ?_
  refine TC.skip_next ?_
  refine TC.seq ?_
  refine TC.seq ?_
  refine TC.region ?_
  refine TL.val (Yl.move rfl) rfl ?_
  refine TL.val (Yl.eqlSlNil Tryz.underlying40 rfl rfl) rfl ?_
  refine TL.next ?_
  refine TC.yes rfl ?_
  refine TC.seq ?_
  refine TC.region ?_
  refine TL.val (Yl.assign rfl) rfl ?_
  refine TL.next ?_
  refine TC.seq ?_
  refine TC.seq ?_
  refine TC.region ?_
  refine TL.val (Yl.move rfl) rfl ?_
  refine TL.val (Yl.asT Tryz.underlying228 rfl rfl) rfl ?_
  refine TL.val (Yl.move rfl) rfl ?_
  refine TL.val (Yl.extract rfl rfl) rfl ?_
  refine TL.val (Yl.extract rfl rfl) rfl ?_
  refine TL.val (Yl.assign rfl) rfl ?_
  refine TL.val (Yl.assign rfl) rfl ?_
  refine TL.next ?_
  refine TC.seq ?_
  refine TC.region ?_
  refine TL.val (Yl.move rfl) rfl ?_
  refine TL.val (Yl.move rfl) rfl ?_
  refine TL.yes rfl rfl rfl ?_
  refine TL.val (Yl.move rfl) rfl ?_
  refine TL.yes rfl rfl rfl ?_
  refine TL.val (Yl.move rfl) rfl ?_
  refine TL.yes rfl rfl rfl ?_
  refine TL.val (Yl.nilCheckP rfl) rfl ?_
  refine TL.yes rfl rfl rfl ?_
  refine TL.val (Yl.fieldAddr (k := 2) (m := 1) Tryz.underlying231 rfl sz2 rfl rfl) rfl ?_
  refine TL.yes rfl rfl rfl ?_
  refine TL.val (Yl.load1 (v := .int .i64 (left : Int)) Tryz.underlying2 rfl rfl (by repeat (first | exact Foc.head | apply Foc.tail | apply Foc.right)) rfl) rfl ?_
  refine TL.yes rfl rfl rfl ?_
  refine TL.val (Yl.gtr rfl rfl (decide_eq_true (by omega))) rfl ?_
  refine TL.val (Yl.pickT rfl rfl) rfl ?_
  refine TL.next ?_
  refine TC.yes rfl ?_
  refine TC.seq ?_
  by_cases hz : left < 1
  · refine TC.region ?_
    refine TL.val (Yl.move rfl) rfl ?_
    refine TL.val (Yl.nilCheckP rfl) rfl ?_
    refine TL.val (Yl.fieldAddr (k := 2) (m := 1) Tryz.underlying231 rfl sz2 rfl rfl) rfl ?_
    refine TL.val (Yl.load1 (v := .int .i64 (left : Int)) Tryz.underlying2 rfl rfl (by repeat (first | exact Foc.head | apply Foc.tail | apply Foc.right)) rfl) rfl ?_
    refine TL.val (Yl.lss rfl rfl (decide_eq_true (by omega))) rfl ?_
    refine TL.next ?_
    refine TC.yes rfl ?_
    refine TC.region ?_
    refine TL.val (Yl.assign rfl) rfl ?_
    refine TL.next ?_
    refine TC.region ?_
    refine TL.val (Yl.move rfl) rfl ?_
    refine TL.eff (Eff.makeB (i := 1) (j := 1) Tryz.underlying40 sz5 by5 zr5 rfl rfl rfl rfl (by omega) (by omega)) rfl fun b67 => ?_
    refine TL.val (Yl.assign rfl) rfl ?_
    refine TL.next ?_
    refine TC.seq ?_
    refine TC.block ?_
    refine TC.loopI (σ := ((i : Nat) × R.St i) × List UInt8) (fun p => [(0, .iface 201 (.agg ⟨[]⟩)), (1, .iface 228 (pt bl 0)), (2, sl b67 0 1 1), (6, .int .i64 ((p.1.1 : Int) - n)), (7, .nilIface)]) (fun p => (bl, oC [.iface R.t R.v, .int .i64 ((left : Int) - ((p.1.1 : Int) - n))] 231) :: (R.heap p.1.1 p.1.2 ++ ((b67, oC (bV p.2) 5) :: eofB ea :: Fr))) (fun p => n ≤ p.1.1 ∧ p.1.1 ≤ n + left ∧ p.2.length = 1) (fun p => n + left - p.1.1) (⟨n, s⟩, List.replicate 1 0) ⟨rfl, rfl, rfl, (congrArg (fun z => some (Value.int .i64 z)) (by show (0 : Int) = (n : Int) - n; omega)), rfl, trivial⟩ (fun _ h => by show Own g _ ((bl, oC [.iface R.t R.v, .int .i64 ((left : Int) - ((n : Int) - n))] 231) :: _); rw [show (left : Int) - ((n : Int) - n) = left by omega]; exact Own.inA (A := [(bl, _)]) (List.perm_middle.symm) (Pulls.own (.cons (by repeat (first | exact Pull.head | apply Pull.tail | apply Pull.right)) .nil) _ h)) ⟨Nat.le_refl _, Nat.le_add_right _ _, List.length_replicate⟩ (fun p hp => ?_)
    obtain ⟨⟨i, s⟩, l⟩ := p
    obtain ⟨h1, h2, h3⟩ := hp
    dsimp only at h1 h2 h3 ⊢
    rw [show (left : Int) - ((i : Int) - n) = ((n + left - i : Nat) : Int) by omega]
    refine TC.block ?_
    refine TC.seq ?_
    by_cases hlt : i < n + left
    · refine TC.region ?_
      refine TL.val (Yl.move rfl) rfl ?_
      refine TL.val (Yl.move rfl) rfl ?_
      refine TL.call (Cll.inv (xs := [_]) (vs := [_]) Tryz.func187 rfl (by kernel_rfl) (m228Read _) rfl ⟨rfl, trivial⟩) rfl (limRead_g R hdl i (n + left - i) s (by omega) (by omega) 5 l b67 0 1 1 (by omega) (by omega) (by omega) bl g Fr) fun q => ?_
      have hk1 := q.1.2.1
      have hk2 := q.1.2.2.1
      have hk3 := q.1.2.2.2
      refine TL.val (Yl.move rfl) rfl ?_
      refine TL.val (Yl.extract rfl rfl) rfl ?_
      refine TL.val (Yl.extract rfl rfl) rfl ?_
      refine TL.val (Yl.assign rfl) rfl ?_
      refine TL.val (Yl.assign rfl) rfl ?_
      refine TL.next ?_
      refine TC.seq ?_
      refine TC.seq ?_
      refine TC.region ?_
      refine TL.val (Yl.move rfl) rfl ?_
      refine TL.val (Yl.gtr rfl rfl (decide_eq_true (by omega))) rfl ?_
      refine TL.next ?_
      refine TC.yes rfl ?_
      refine TC.seq ?_
      refine TC.draws [] _ mixed (by kernel_rfl) rfl (fun _ h => h) ?_
      refine TA.pure 0 rfl (by kernel_rfl) (Yl.move rfl) rfl ?_
      refine TA.pure 1 rfl (by kernel_rfl) (Yl.move rfl) rfl ?_
      refine TA.pure 2 rfl (by kernel_rfl) (Yl.move rfl) rfl ?_
      refine TA.pure 3 rfl (by kernel_rfl) (Yl.slcLH (i := 0) (j := q.1.1) Tryz.underlying40 sz5 rfl rfl rfl rfl rfl (by omega) (by omega)) rfl ?_
      refine TA.pure 4 rfl (by kernel_rfl) (Yl.func (xs := [_]) (ys := []) (vs := [_]) (us := []) ⟨rfl, trivial⟩ trivial) rfl ?_
      refine TA.pure 5 rfl (by kernel_rfl) (Yl.nilCheckM rfl a201Write) rfl ?_
      refine TA.pure 6 rfl (by kernel_rfl) (Yl.move rfl) rfl ?_
      refine TA.quiet 7 rfl (by kernel_rfl) (Cll.inv (xs := [_]) (vs := [_]) Tryz.func186 rfl (by kernel_rfl) (m201Write _) rfl ⟨rfl, trivial⟩) rfl (Quiet.none (nowhere_q _ _ _ _)) ?_
      rw [Nat.sub_zero]
      refine TA.pure 8 rfl (by kernel_rfl) (Yl.move rfl) rfl ?_
      refine TA.pure 9 rfl (by kernel_rfl) (Yl.extract rfl rfl) rfl ?_
      refine TA.pure 10 rfl (by kernel_rfl) (Yl.extract rfl rfl) rfl ?_
      refine TA.pure 11 rfl (by kernel_rfl) (Yl.assign rfl) rfl ?_
      refine TA.pure 12 rfl (by kernel_rfl) (Yl.assign rfl) rfl ?_
      refine TA.next (by kernel_rfl) ?_
      refine TC.seq ?_
      refine TC.seq ?_
      refine TC.region ?_
      refine TL.val (Yl.move rfl) rfl ?_
      refine TL.val (Yl.lss rfl rfl (decide_eq_false (by omega))) rfl ?_
      refine TL.val (Yl.move rfl) rfl ?_
      refine TL.yes rfl rfl rfl ?_
      refine TL.val (Yl.move rfl) rfl ?_
      refine TL.yes rfl rfl rfl ?_
      refine TL.val (Yl.move rfl) rfl ?_
      refine TL.yes rfl rfl rfl ?_
      refine TL.val (Yl.lss rfl rfl (decide_eq_false (by omega))) rfl ?_
      refine TL.val (Yl.pickF rfl rfl) rfl ?_
      refine TL.next ?_
      refine TC.no rfl ?_
      refine TC.skip_next ?_
      refine TC.seq ?_
      refine TC.region ?_
      refine TL.val (Yl.move rfl) rfl ?_
      refine TL.val (Yl.move rfl) rfl ?_
      refine TL.val (Yl.add rfl rfl (wI (by omega))) rfl ?_
      refine TL.val (Yl.assign rfl) rfl ?_
      refine TL.next ?_
      refine TC.seq ?_
      refine TC.seq ?_
      refine TC.region ?_
      refine TL.val (Yl.move rfl) rfl ?_
      refine TL.val (Yl.neqNilN Tryz.underlying58 rfl rfl) rfl ?_
      refine TL.next ?_
      refine TC.no rfl ?_
      refine TC.skip_next ?_
      refine TC.seq ?_
      refine TC.region ?_
      refine TL.val (Yl.move rfl) rfl ?_
      refine TL.val (Yl.move rfl) rfl ?_
      refine TL.val (Yl.neq (b := false) rfl rfl (decide_eq_false (fun h => h rfl))) rfl ?_
      refine TL.next ?_
      refine TC.no rfl ?_
      refine TC.skip_next ?_
      refine TC.seq ?_
      refine TC.region ?_
      refine TL.val (Yl.move rfl) rfl ?_
      refine TL.val (Yl.neqNilN Tryz.underlying58 rfl rfl) rfl ?_
      refine TL.next ?_
      refine TC.no rfl ?_
      exact TC.skip (Inv.again (⟨i + q.1.1, q.2⟩, layB l 0 ((d.drop i).take q.1.1)) ⟨by show n ≤ i + q.1.1; omega, by show i + q.1.1 ≤ n + left; omega, by show (layB l 0 ((d.drop i).take q.1.1)).length = 1; rw [layB_length (by rw [take_len (by omega)]; omega)]; exact h3⟩ (by show n + left - (i + q.1.1) < n + left - i; omega) ⟨rfl, rfl, rfl, (congrArg (fun z => some (Value.int .i64 z)) (by show _ = ((i + q.1.1 : Nat) : Int) - n; omega)), rfl, trivial⟩ (fun _ h => by show Own g _ ((bl, oC [.iface R.t R.v, .int .i64 ((left : Int) - (((i + q.1.1 : Nat) : Int) - n))] 231) :: _); rw [show (left : Int) - (((i + q.1.1 : Nat) : Int) - n) = ((n + left - i - q.1.1 : Nat) : Int) by omega]; exact h))
    · obtain rfl : i = n + left := by omega
      rw [Nat.sub_self]
      refine TC.region ?_
      refine TL.val (Yl.move rfl) rfl ?_
      refine TL.val (Yl.move rfl) rfl ?_
      refine TL.quiet (Cll.inv (xs := [_]) (vs := [_]) Tryz.func187 rfl (by kernel_rfl) (m228Read _) rfl ⟨rfl, trivial⟩) rfl (Quiet.pull (L := [(bl, _), eofB ea]) (R := _) (.cons (by repeat (first | exact Pull.head | apply Pull.tail | apply Pull.right)) (.cons (by repeat (first | exact Pull.head | apply Pull.tail | apply Pull.right)) .nil)) (limEof_q R bl _)) ?_
      refine TL.val (Yl.move rfl) rfl ?_
      refine TL.val (Yl.extract rfl rfl) rfl ?_
      refine TL.val (Yl.extract rfl rfl) rfl ?_
      refine TL.val (Yl.assign rfl) rfl ?_
      refine TL.val (Yl.assign rfl) rfl ?_
      refine TL.next ?_
      refine TC.seq ?_
      refine TC.seq ?_
      refine TC.region ?_
      refine TL.val (Yl.move rfl) rfl ?_
      refine TL.val (Yl.gtr rfl rfl (decide_eq_false (by omega))) rfl ?_
      refine TL.next ?_
      refine TC.no rfl ?_
      refine TC.skip_next ?_
      refine TC.seq ?_
      refine TC.region ?_
      refine TL.val (Yl.move rfl) rfl ?_
      refine TL.val (Yl.neqNilI Tryz.underlying58 rfl rfl) rfl ?_
      refine TL.next ?_
      refine TC.yes rfl ?_
      refine TC.seq ?_
      refine TC.seq ?_
      refine TC.region ?_
      refine TL.val (Yl.move rfl) rfl ?_
      refine TL.val (Yl.load1 (v := eofV ea) Tryz.underlying58 rfl rfl (by repeat (first | exact Foc.head | apply Foc.tail | apply Foc.right)) rfl) rfl ?_
      refine TL.val (Yl.neqP Tryz.underlying58 Tryz.underlying94 (SizeIs.of (n := 1) (by kernel_rfl)) (by kernel_rfl) rfl rfl) rfl ?_
      refine TL.next ?_
      refine TC.no rfl ?_
      refine TC.skip_next ?_
      refine TC.exit_next rfl ?_
      refine TC.seq ?_
      refine TC.region ?_
      refine TL.val (Yl.move rfl) rfl ?_
      refine TL.val (Yl.move rfl) rfl ?_
      refine TL.val (Yl.assign rfl) rfl ?_
      refine TL.val (Yl.assign rfl) rfl ?_
      refine TL.next ?_
      exact TC.back2 s rfl rfl rfl (by rw [show ((n + left : Nat) : Int) - n = (left : Int) by omega]) (fun _ h => h.sub (.cons_cons _ (List.Sublist.append (.refl _) (.cons _ (.refl _)))))
  · refine TC.region ?_
    refine TL.val (Yl.move rfl) rfl ?_
    refine TL.val (Yl.nilCheckP rfl) rfl ?_
    refine TL.val (Yl.fieldAddr (k := 2) (m := 1) Tryz.underlying231 rfl sz2 rfl rfl) rfl ?_
    refine TL.val (Yl.load1 (v := .int .i64 (left : Int)) Tryz.underlying2 rfl rfl (by repeat (first | exact Foc.head | apply Foc.tail | apply Foc.right)) rfl) rfl ?_
    refine TL.val (Yl.lss rfl rfl (decide_eq_false (by omega))) rfl ?_
    refine TL.next ?_
    refine TC.no rfl ?_
    refine TC.region ?_
    refine TL.val (Yl.move rfl) rfl ?_
    refine TL.val (Yl.nilCheckP rfl) rfl ?_
    refine TL.val (Yl.fieldAddr (k := 2) (m := 1) Tryz.underlying231 rfl sz2 rfl rfl) rfl ?_
    refine TL.val (Yl.load1 (v := .int .i64 (left : Int)) Tryz.underlying2 rfl rfl (by repeat (first | exact Foc.head | apply Foc.tail | apply Foc.right)) rfl) rfl ?_
    refine TL.val (Yl.assign rfl) rfl ?_
    refine TL.next ?_
    refine TC.region ?_
    refine TL.val (Yl.move rfl) rfl ?_
    refine TL.eff (Eff.makeB (i := left) (j := left) Tryz.underlying40 sz5 by5 zr5 rfl rfl rfl rfl (by omega) (by omega)) rfl fun b67 => ?_
    refine TL.val (Yl.assign rfl) rfl ?_
    refine TL.next ?_
    refine TC.seq ?_
    refine TC.block ?_
    refine TC.loopI (σ := ((i : Nat) × R.St i) × List UInt8) (fun p => [(0, .iface 201 (.agg ⟨[]⟩)), (1, .iface 228 (pt bl 0)), (2, sl b67 0 left left), (6, .int .i64 ((p.1.1 : Int) - n)), (7, .nilIface)]) (fun p => (bl, oC [.iface R.t R.v, .int .i64 ((left : Int) - ((p.1.1 : Int) - n))] 231) :: (R.heap p.1.1 p.1.2 ++ ((b67, oC (bV p.2) 5) :: eofB ea :: Fr))) (fun p => n ≤ p.1.1 ∧ p.1.1 ≤ n + left ∧ p.2.length = left) (fun p => n + left - p.1.1) (⟨n, s⟩, List.replicate left 0) ⟨rfl, rfl, rfl, (congrArg (fun z => some (Value.int .i64 z)) (by show (0 : Int) = (n : Int) - n; omega)), rfl, trivial⟩ (fun _ h => by show Own g _ ((bl, oC [.iface R.t R.v, .int .i64 ((left : Int) - ((n : Int) - n))] 231) :: _); rw [show (left : Int) - ((n : Int) - n) = left by omega]; exact Own.inA (A := [(bl, _)]) (List.perm_middle.symm) (Pulls.own (.cons (by repeat (first | exact Pull.head | apply Pull.tail | apply Pull.right)) .nil) _ h)) ⟨Nat.le_refl _, Nat.le_add_right _ _, List.length_replicate⟩ (fun p hp => ?_)
    obtain ⟨⟨i, s⟩, l⟩ := p
    obtain ⟨h1, h2, h3⟩ := hp
    dsimp only at h1 h2 h3 ⊢
    rw [show (left : Int) - ((i : Int) - n) = ((n + left - i : Nat) : Int) by omega]
    refine TC.block ?_
    refine TC.seq ?_
    by_cases hlt : i < n + left
    · refine TC.region ?_
      refine TL.val (Yl.move rfl) rfl ?_
      refine TL.val (Yl.move rfl) rfl ?_
      refine TL.call (Cll.inv (xs := [_]) (vs := [_]) Tryz.func187 rfl (by kernel_rfl) (m228Read _) rfl ⟨rfl, trivial⟩) rfl (limRead_g R hdl i (n + left - i) s (by omega) (by omega) 5 l b67 0 left left (by omega) (by omega) (by omega) bl g Fr) fun q => ?_
      have hk1 := q.1.2.1
      have hk2 := q.1.2.2.1
      have hk3 := q.1.2.2.2
      refine TL.val (Yl.move rfl) rfl ?_
      refine TL.val (Yl.extract rfl rfl) rfl ?_
      refine TL.val (Yl.extract rfl rfl) rfl ?_
      refine TL.val (Yl.assign rfl) rfl ?_
      refine TL.val (Yl.assign rfl) rfl ?_
      refine TL.next ?_
      refine TC.seq ?_
      refine TC.seq ?_
      refine TC.region ?_
      refine TL.val (Yl.move rfl) rfl ?_
      refine TL.val (Yl.gtr rfl rfl (decide_eq_true (by omega))) rfl ?_
      refine TL.next ?_
      refine TC.yes rfl ?_
      refine TC.seq ?_
      refine TC.draws [] _ mixed (by kernel_rfl) rfl (fun _ h => h) ?_
      refine TA.pure 0 rfl (by kernel_rfl) (Yl.move rfl) rfl ?_
      refine TA.pure 1 rfl (by kernel_rfl) (Yl.move rfl) rfl ?_
      refine TA.pure 2 rfl (by kernel_rfl) (Yl.move rfl) rfl ?_
      refine TA.pure 3 rfl (by kernel_rfl) (Yl.slcLH (i := 0) (j := q.1.1) Tryz.underlying40 sz5 rfl rfl rfl rfl rfl (by omega) (by omega)) rfl ?_
      refine TA.pure 4 rfl (by kernel_rfl) (Yl.func (xs := [_]) (ys := []) (vs := [_]) (us := []) ⟨rfl, trivial⟩ trivial) rfl ?_
      refine TA.pure 5 rfl (by kernel_rfl) (Yl.nilCheckM rfl a201Write) rfl ?_
      refine TA.pure 6 rfl (by kernel_rfl) (Yl.move rfl) rfl ?_
      refine TA.quiet 7 rfl (by kernel_rfl) (Cll.inv (xs := [_]) (vs := [_]) Tryz.func186 rfl (by kernel_rfl) (m201Write _) rfl ⟨rfl, trivial⟩) rfl (Quiet.none (nowhere_q _ _ _ _)) ?_
      rw [Nat.sub_zero]
      refine TA.pure 8 rfl (by kernel_rfl) (Yl.move rfl) rfl ?_
      refine TA.pure 9 rfl (by kernel_rfl) (Yl.extract rfl rfl) rfl ?_
      refine TA.pure 10 rfl (by kernel_rfl) (Yl.extract rfl rfl) rfl ?_
      refine TA.pure 11 rfl (by kernel_rfl) (Yl.assign rfl) rfl ?_
      refine TA.pure 12 rfl (by kernel_rfl) (Yl.assign rfl) rfl ?_
      refine TA.next (by kernel_rfl) ?_
      refine TC.seq ?_
      refine TC.seq ?_
      refine TC.region ?_
      refine TL.val (Yl.move rfl) rfl ?_
      refine TL.val (Yl.lss rfl rfl (decide_eq_false (by omega))) rfl ?_
      refine TL.val (Yl.move rfl) rfl ?_
      refine TL.yes rfl rfl rfl ?_
      refine TL.val (Yl.move rfl) rfl ?_
      refine TL.yes rfl rfl rfl ?_
      refine TL.val (Yl.move rfl) rfl ?_
      refine TL.yes rfl rfl rfl ?_
      refine TL.val (Yl.lss rfl rfl (decide_eq_false (by omega))) rfl ?_
      refine TL.val (Yl.pickF rfl rfl) rfl ?_
      refine TL.next ?_
      refine TC.no rfl ?_
      refine TC.skip_next ?_
      refine TC.seq ?_
      refine TC.region ?_
      refine TL.val (Yl.move rfl) rfl ?_
      refine TL.val (Yl.move rfl) rfl ?_
      refine TL.val (Yl.add rfl rfl (wI (by omega))) rfl ?_
      refine TL.val (Yl.assign rfl) rfl ?_
      refine TL.next ?_
      refine TC.seq ?_
      refine TC.seq ?_
      refine TC.region ?_
      refine TL.val (Yl.move rfl) rfl ?_
      refine TL.val (Yl.neqNilN Tryz.underlying58 rfl rfl) rfl ?_
      refine TL.next ?_
      refine TC.no rfl ?_
      refine TC.skip_next ?_
      refine TC.seq ?_
      refine TC.region ?_
      refine TL.val (Yl.move rfl) rfl ?_
      refine TL.val (Yl.move rfl) rfl ?_
      refine TL.val (Yl.neq (b := false) rfl rfl (decide_eq_false (fun h => h rfl))) rfl ?_
      refine TL.next ?_
      refine TC.no rfl ?_
      refine TC.skip_next ?_
      refine TC.seq ?_
      refine TC.region ?_
      refine TL.val (Yl.move rfl) rfl ?_
      refine TL.val (Yl.neqNilN Tryz.underlying58 rfl rfl) rfl ?_
      refine TL.next ?_
      refine TC.no rfl ?_
      exact TC.skip (Inv.again (⟨i + q.1.1, q.2⟩, layB l 0 ((d.drop i).take q.1.1)) ⟨by show n ≤ i + q.1.1; omega, by show i + q.1.1 ≤ n + left; omega, by show (layB l 0 ((d.drop i).take q.1.1)).length = left; rw [layB_length (by rw [take_len (by omega)]; omega)]; exact h3⟩ (by show n + left - (i + q.1.1) < n + left - i; omega) ⟨rfl, rfl, rfl, (congrArg (fun z => some (Value.int .i64 z)) (by show _ = ((i + q.1.1 : Nat) : Int) - n; omega)), rfl, trivial⟩ (fun _ h => by show Own g _ ((bl, oC [.iface R.t R.v, .int .i64 ((left : Int) - (((i + q.1.1 : Nat) : Int) - n))] 231) :: _); rw [show (left : Int) - (((i + q.1.1 : Nat) : Int) - n) = ((n + left - i - q.1.1 : Nat) : Int) by omega]; exact h))
    · obtain rfl : i = n + left := by omega
      rw [Nat.sub_self]
      refine TC.region ?_
      refine TL.val (Yl.move rfl) rfl ?_
      refine TL.val (Yl.move rfl) rfl ?_
      refine TL.quiet (Cll.inv (xs := [_]) (vs := [_]) Tryz.func187 rfl (by kernel_rfl) (m228Read _) rfl ⟨rfl, trivial⟩) rfl (Quiet.pull (L := [(bl, _), eofB ea]) (R := _) (.cons (by repeat (first | exact Pull.head | apply Pull.tail | apply Pull.right)) (.cons (by repeat (first | exact Pull.head | apply Pull.tail | apply Pull.right)) .nil)) (limEof_q R bl _)) ?_
      refine TL.val (Yl.move rfl) rfl ?_
      refine TL.val (Yl.extract rfl rfl) rfl ?_
      refine TL.val (Yl.extract rfl rfl) rfl ?_
      refine TL.val (Yl.assign rfl) rfl ?_
      refine TL.val (Yl.assign rfl) rfl ?_
      refine TL.next ?_
      refine TC.seq ?_
      refine TC.seq ?_
      refine TC.region ?_
      refine TL.val (Yl.move rfl) rfl ?_
      refine TL.val (Yl.gtr rfl rfl (decide_eq_false (by omega))) rfl ?_
      refine TL.next ?_
      refine TC.no rfl ?_
      refine TC.skip_next ?_
      refine TC.seq ?_
      refine TC.region ?_
      refine TL.val (Yl.move rfl) rfl ?_
      refine TL.val (Yl.neqNilI Tryz.underlying58 rfl rfl) rfl ?_
      refine TL.next ?_
      refine TC.yes rfl ?_
      refine TC.seq ?_
      refine TC.seq ?_
      refine TC.region ?_
      refine TL.val (Yl.move rfl) rfl ?_
      refine TL.val (Yl.load1 (v := eofV ea) Tryz.underlying58 rfl rfl (by repeat (first | exact Foc.head | apply Foc.tail | apply Foc.right)) rfl) rfl ?_
      refine TL.val (Yl.neqP Tryz.underlying58 Tryz.underlying94 (SizeIs.of (n := 1) (by kernel_rfl)) (by kernel_rfl) rfl rfl) rfl ?_
      refine TL.next ?_
      refine TC.no rfl ?_
      refine TC.skip_next ?_
      refine TC.exit_next rfl ?_
      refine TC.seq ?_
      refine TC.region ?_
      refine TL.val (Yl.move rfl) rfl ?_
      refine TL.val (Yl.move rfl) rfl ?_
      refine TL.val (Yl.assign rfl) rfl ?_
      refine TL.val (Yl.assign rfl) rfl ?_
      refine TL.next ?_
      exact TC.back2 s rfl rfl rfl (by rw [show ((n + left : Nat) : Int) - n = (left : Int) by omega]) (fun _ h => h.sub (.cons_cons _ (List.Sublist.append (.refl _) (.cons _ (.refl _)))))
end Go.Proofs.YtlhncphipfkkjaaGreatDoor

namespace Go.Proofs.YtlhncphipfkkjaaGreatDoor
open Go
theorem ioCopyLim_g {ea : Addr} {d : List UInt8} (R : Rdr ea d) (hdl : d.length ≤ 1099511627776) (n left : Nat) (s : R.St n) (hd : n + left ≤ d.length) (hl : left ≤ 30000) (bl : Nat) (g : World) (Fr : HL) : Gives Tryz.prog 46 #[.iface 201 (.agg ⟨[]⟩), .iface 228 (pt bl 0)] g ((bl, oC [.iface R.t R.v, .int .i64 (left : Int)] 231) :: (R.heap n s ++ (eofB ea :: Fr))) (R.St (n + left)) (fun _ => .tuple #[.int .i64 (left : Int), .nilIface])
    (fun s => (bl, oC [.iface R.t R.v, .int .i64 (((0 : Nat) : Int))] 231) :: (R.heap (n + left) s ++ (eofB ea :: Fr))) := by
  refine Gives.enter Tryz.func46 rfl Tryz.ntmps46 rfl ?_
  refine TC.seq ?_
  refine TC.region ?_
  refine TL.val (Yl.assign rfl) rfl ?_
  refine TL.val (Yl.assign rfl) rfl ?_
  refine TL.next ?_
  refine TC.seq ?_
  refine TC.region ?_
  refine TL.val (Yl.move rfl) rfl ?_
  refine TL.val (Yl.move rfl) rfl ?_
  refine TL.call (Cll.func (xs := [_, _, _]) (vs := [_, _, .slice none 0 0]) Tryz.func59 rfl (by kernel_rfl) ⟨rfl, rfl, rfl, trivial⟩) rfl (copyLim_g R hdl n left s hd hl bl g Fr) fun q => ?_
  refine TL.val (Yl.extract rfl rfl) rfl ?_
  refine TL.val (Yl.extract rfl rfl) rfl ?_
  refine TL.val (Yl.assign rfl) rfl ?_
  refine TL.val (Yl.assign rfl) rfl ?_
  refine TL.next ?_
  exact TC.back2 q rfl rfl rfl rfl (fun _ h => h)
theorem copyN_g {ea : Addr} {d : List UInt8} (R : Rdr ea d) (hdl : d.length ≤ 1099511627776) (n left : Nat) (s : R.St n) (hd : n + left ≤ d.length) (hl : left ≤ 30000) (g : World) (Fr : HL) : Gives Tryz.prog 63 #[.iface 201 (.agg ⟨[]⟩), .iface R.t R.v, .int .i64 (left : Int)] g (R.heap n s ++ (eofB ea :: Fr)) (R.St (n + left)) (fun _ => .tuple #[.int .i64 (left : Int), .nilIface])
    (fun s => R.heap (n + left) s ++ (eofB ea :: Fr)) := by
  refine Gives.enter Tryz.func63 rfl Tryz.ntmps63 rfl ?_
  refine TC.seq ?_
  refine TC.region ?_
  refine TL.val (Yl.assign rfl) rfl ?_
  refine TL.val (Yl.assign rfl) rfl ?_
  refine TL.next ?_
  refine TC.seq ?_
  refine TC.region ?_
  refine TL.val (Yl.move rfl) rfl ?_
  refine TL.val (Yl.move rfl) rfl ?_
  refine TL.val (Yl.move rfl) rfl ?_
  refine TL.call (Cll.func (xs := [_, _]) (vs := [_, _]) Tryz.func72 rfl (by kernel_rfl) ⟨rfl, rfl, trivial⟩) rfl (limit_g R left g _) fun b12 => ?_
  refine TL.call (Cll.func (xs := [_, _]) (vs := [_, _]) Tryz.func46 rfl (by kernel_rfl) ⟨rfl, rfl, trivial⟩) rfl (ioCopyLim_g R hdl n left s hd hl b12 g Fr) fun q => ?_
  refine TL.val (Yl.move rfl) rfl ?_
  refine TL.val (Yl.extract rfl rfl) rfl ?_
  refine TL.val (Yl.extract rfl rfl) rfl ?_
  refine TL.val (Yl.assign rfl) rfl ?_
  refine TL.val (Yl.assign rfl) rfl ?_
  refine TL.next ?_
  refine TC.seq ?_
  refine TC.seq ?_
  refine TC.region ?_
  refine TL.val (Yl.move rfl) rfl ?_
  refine TL.val (Yl.move rfl) rfl ?_
  refine TL.val (Yl.eql (b := true) rfl rfl (decide_eq_true rfl)) rfl ?_
  refine TL.next ?_
  refine TC.yes rfl ?_
  refine TC.seq ?_
  refine TC.region ?_
  refine TL.val (Yl.move rfl) rfl ?_
  refine TL.val (Yl.assign rfl) rfl ?_
  refine TL.val (Yl.assign rfl) rfl ?_
  refine TL.next ?_
  exact TC.back2 q rfl rfl rfl rfl (fun _ h => h.sub (.cons _ (.refl _)))
end Go.Proofs.YtlhncphipfkkjaaGreatDoor

namespace Go.Proofs.YtlhncphipfkkjaaGreatDoor
open Go
set_option maxHeartbeats 1000000 in
theorem skip_g {ea : Addr} {d : List UInt8} (R : Rdr ea d) (hdl : d.length ≤ 1099511627776) (n left pad : Nat) (s : R.St n) (hd : n + left + pad ≤ d.length) (hl : left ≤ 30000) (hp : pad ≤ 30000) (bt : Nat) (g : World) (Fr : HL) : Gives Tryz.prog 52 #[pt bt 0] g ((bt, oC [.iface R.t R.v, .int .i64 (pad : Int), .iface R.t R.v, .int .i64 (left : Int), .nilIface] 182) :: (R.heap n s ++ (eofB ea :: Fr))) (R.St (n + left + pad)) (fun _ => .nilIface)
    (fun s => (bt, oC [.iface R.t R.v, .int .i64 0, .iface R.t R.v, .int .i64 (left : Int), .nilIface] 182) :: (R.heap (n + left + pad) s ++ (eofB ea :: Fr))) := by
  refine Gives.enter Tryz.func52 rfl Tryz.ntmps52 rfl ?_
  refine TC.seq ?_
  refine TC.region ?_
  refine TL.val (Yl.assign rfl) rfl ?_
  refine TL.next ?_
  refine TC.seq ?_
  refine TC.draws [] [(bt, oC [.iface R.t R.v, .int .i64 (pad : Int), .iface R.t R.v, .int .i64 (left : Int), .nilIface] 182)] mixed (by kernel_rfl) rfl (fun _ h => h.sub (.cons_cons _ (List.nil_sublist _))) ?_
  refine TA.pure 0 rfl (by kernel_rfl) (Yl.build (ixs := []) (vs := []) (rs := []) [] st201 rfl trivial rfl) rfl ?_
  refine TA.pure 1 rfl (by kernel_rfl) (Yl.iface Tryz.underlying201 rfl rfl) rfl ?_
  refine TA.pure 2 rfl (by kernel_rfl) (Yl.move rfl) rfl ?_
  refine TA.pure 3 rfl (by kernel_rfl) (Yl.nilCheckP rfl) rfl ?_
  refine TA.pure 4 rfl (by kernel_rfl) (Yl.fieldAddr (k := 110) (m := 0) (o := 0) Tryz.underlying182 rfl sz110 rfl rfl) rfl ?_
  refine TA.load 5 rfl (by kernel_rfl) (Yl.load1 (v := .iface R.t R.v) Tryz.underlying110 rfl rfl .head rfl) rfl ?_
  refine TA.pure 6 rfl (by kernel_rfl) (Yl.move rfl) rfl ?_
  refine TA.pure 7 rfl (by kernel_rfl) (Yl.nilCheckP rfl) rfl ?_
  refine TA.pure 8 rfl (by kernel_rfl) (Yl.fieldAddr (k := 180) (m := 2) (o := 2) Tryz.underlying182 rfl sz180 rfl rfl) rfl ?_
  refine TA.pure 9 rfl (by kernel_rfl) (Yl.fieldAddr (k := 2) (m := 1) (o := 3) Tryz.underlying180 rfl sz2 rfl rfl) rfl ?_
  refine TA.load 10 rfl (by kernel_rfl) (Yl.load1 (v := .int .i64 (left : Int)) Tryz.underlying2 rfl rfl .head rfl) rfl ?_
  refine TA.one 11 (by kernel_rfl) ?_
  refine Up.call rfl rfl (Cll.func (xs := [_, _, _]) (vs := [_, _, _]) Tryz.func63 rfl (by kernel_rfl) ⟨rfl, rfl, rfl, trivial⟩) rfl (Gives.of (fun _ h => Own.inA (A := R.heap n s) (List.Perm.swap _ _ _) (Own.mid (A := [_]) h)) (copyN_g R hdl n left s (by omega) hl g ((bt, oC [.iface R.t R.v, .int .i64 (pad : Int), .iface R.t R.v, .int .i64 (left : Int), .nilIface] 182) :: Fr))) (fun _ => .inr (fun _ h => h.sub (List.Sublist.trans (.cons _ (.cons_cons _ (List.nil_sublist _))) (List.sublist_append_right _ _)))) fun q => ?_
  refine TA.pure 12 rfl (by kernel_rfl) (Yl.move rfl) rfl ?_
  refine TA.pure 13 rfl (by kernel_rfl) (Yl.extract rfl rfl) rfl ?_
  refine TA.pure 14 rfl (by kernel_rfl) (Yl.extract rfl rfl) rfl ?_
  refine TA.pure 15 rfl (by kernel_rfl) (Yl.assign rfl) rfl ?_
  refine TA.pure 16 rfl (by kernel_rfl) (Yl.assign rfl) rfl ?_
  refine TA.next (by kernel_rfl) ?_
  refine TC.seq ?_
  refine TC.seq ?_
  refine TC.region ?_
  refine TL.val (Yl.move rfl) rfl ?_
  refine TL.val (Yl.load1 (v := eofV ea) Tryz.underlying58 rfl rfl (by repeat (first | exact Foc.head | apply Foc.tail | apply Foc.right)) rfl) rfl ?_
  refine TL.val (Yl.eqlN Tryz.underlying58 rfl rfl) rfl ?_
  refine TL.val (Yl.move rfl) rfl ?_
  refine TL.no rfl rfl rfl rfl rfl ?_
  refine TL.no rfl rfl rfl rfl rfl ?_
  refine TL.no rfl rfl rfl rfl rfl ?_
  refine TL.no rfl rfl rfl rfl rfl ?_
  refine TL.no rfl rfl rfl rfl rfl ?_
  refine TL.no rfl rfl rfl rfl rfl ?_
  refine TL.no rfl rfl rfl rfl rfl ?_
  refine TL.val (Yl.pickF rfl rfl) rfl ?_
  refine TL.next ?_
  refine TC.no rfl ?_
  refine TC.skip_next ?_
  refine TC.seq ?_
  refine TC.seq ?_
  refine TC.region ?_
  refine TL.val (Yl.move rfl) rfl ?_
  refine TL.val (Yl.neqNilN Tryz.underlying58 rfl rfl) rfl ?_
  refine TL.next ?_
  refine TC.no rfl ?_
  refine TC.skip_next ?_
  refine TC.seq ?_
  refine TC.region ?_
  refine TL.val (Yl.move rfl) rfl ?_
  refine TL.val (Yl.nilCheckP rfl) rfl ?_
  refine TL.val (Yl.fieldAddr (k := 2) (m := 1) (o := 1) Tryz.underlying182 rfl sz2 rfl rfl) rfl ?_
  refine TL.val (Yl.load1 (v := .int .i64 (pad : Int)) Tryz.underlying2 rfl rfl (by repeat (first | exact Foc.head | apply Foc.tail | apply Foc.right)) rfl) rfl ?_
  refine TL.eff (Eff.makeB (i := pad) (j := pad) Tryz.underlying40 sz5 by5 zr5 rfl rfl rfl rfl (by omega) (by omega)) rfl fun b44 => ?_
  refine TL.val (Yl.assign rfl) rfl ?_
  refine TL.next ?_
  refine TC.seq ?_
  refine TC.seq ?_
  refine TC.region ?_
  refine TL.val (Yl.assign rfl) rfl ?_
  refine TL.next ?_
  refine TC.block ?_
  refine TC.loopI (σ := ((i : Nat) × R.St i) × List UInt8) (fun p => [(0, pt bt 0), (5, sl b44 0 pad pad), (6, .int .i64 ((p.1.1 : Int) - ((n + left) : Nat)))]) (fun p => R.heap p.1.1 p.1.2 ++ ((b44, oC (bV p.2) 5) :: eofB ea :: (bt, oC [.iface R.t R.v, .int .i64 (pad : Int), .iface R.t R.v, .int .i64 (left : Int), .nilIface] 182) :: Fr)) (fun p => (n + left) ≤ p.1.1 ∧ p.1.1 ≤ (n + left) + pad ∧ p.2.length = pad) (fun p => (n + left) + pad - p.1.1) (⟨(n + left), q⟩, List.replicate pad 0) ⟨rfl, rfl, (congrArg (fun z => some (Value.int .i64 z)) (by show (0 : Int) = (((n + left) : Nat) : Int) - ((n + left) : Nat); omega)), trivial⟩ (fun _ h => Own.mid (A := [_]) h) ⟨Nat.le_refl _, Nat.le_add_right _ _, List.length_replicate⟩ (fun p hp => ?_)
  obtain ⟨⟨i, s⟩, l⟩ := p
  obtain ⟨h1, h2, h3⟩ := hp
  dsimp only at h1 h2 h3 ⊢
  refine TC.seq ?_
  refine TC.seq ?_
  refine TC.region ?_
  refine TL.val (Yl.move rfl) rfl ?_
  refine TL.val (Yl.move rfl) rfl ?_
  refine TL.val (Yl.lenL Tryz.underlying40 rfl) rfl ?_
  refine TL.val (Yl.lss rfl rfl rfl) rfl ?_
  refine TL.next ?_
  refine TC.cond rfl (fun hc48 => ?_) (fun hc48 => ?_)
  · replace hc48 := of_decide_eq_true hc48
    refine TC.skip_next ?_
    refine TC.block ?_
    refine TC.seq ?_
    refine TC.draws [] [(bt, oC [.iface R.t R.v, .int .i64 (pad : Int), .iface R.t R.v, .int .i64 (left : Int), .nilIface] 182)] mixed (by kernel_rfl) rfl (fun _ h => h.sub (List.Sublist.trans (.cons _ (.cons _ (.cons_cons _ (List.nil_sublist _)))) (List.sublist_append_right _ _))) ?_
    refine TA.pure 0 rfl (by kernel_rfl) (Yl.move rfl) rfl ?_
    refine TA.pure 1 rfl (by kernel_rfl) (Yl.nilCheckP rfl) rfl ?_
    refine TA.pure 2 rfl (by kernel_rfl) (Yl.fieldAddr (k := 110) (m := 0) (o := 0) Tryz.underlying182 rfl sz110 rfl rfl) rfl ?_
    refine TA.load 3 rfl (by kernel_rfl) (Yl.load1 (v := .iface R.t R.v) Tryz.underlying110 rfl rfl .head rfl) rfl ?_
    refine TA.pure 4 rfl (by kernel_rfl) (Yl.move rfl) rfl ?_
    refine TA.pure 5 rfl (by kernel_rfl) (Yl.move rfl) rfl ?_
    refine TA.pure 6 rfl (by kernel_rfl) (Yl.slcL (i := i - (n + left)) Tryz.underlying40 sz5 rfl rfl (by omega) (by omega)) rfl ?_
    rw [show adv 0 pad (i - (n + left)) 1 = i - (n + left) by unfold adv; rw [if_neg (by omega)]; omega]
    refine TA.pure 7 rfl (by kernel_rfl) (Yl.nilCheckI rfl) rfl ?_
    refine TA.pure 8 rfl (by kernel_rfl) (Yl.move rfl) rfl ?_
    refine TA.one 9 (by kernel_rfl) ?_
    refine Up.call rfl rfl (Cll.inv (xs := [_]) (vs := [_]) R.hf R.hb R.hn R.hm rfl ⟨rfl, trivial⟩) rfl (R.read i s (by omega) 5 l b44 (i - (n + left)) (pad - (i - (n + left))) (pad - (i - (n + left))) (by omega) (by omega) (by omega) g ((bt, oC [.iface R.t R.v, .int .i64 (pad : Int), .iface R.t R.v, .int .i64 (left : Int), .nilIface] 182) :: Fr)) (fun _ => .inr (fun _ h => h.sub (List.Sublist.trans (.cons _ (.cons _ (.cons_cons _ (List.nil_sublist _)))) (List.sublist_append_right _ _)))) fun r => ?_
    have hk1 := r.1.2.1
    have hk2 := r.1.2.2.1
    have hk3 := r.1.2.2.2
    refine TA.pure 10 rfl (by kernel_rfl) (Yl.move rfl) rfl ?_
    refine TA.pure 11 rfl (by kernel_rfl) (Yl.extract rfl rfl) rfl ?_
    refine TA.pure 12 rfl (by kernel_rfl) (Yl.extract rfl rfl) rfl ?_
    refine TA.pure 13 rfl (by kernel_rfl) (Yl.assign rfl) rfl ?_
    refine TA.pure 14 rfl (by kernel_rfl) (Yl.assign rfl) rfl ?_
    refine TA.next (by kernel_rfl) ?_
    refine TC.seq ?_
    refine TC.region ?_
    refine TL.val (Yl.move rfl) rfl ?_
    refine TL.val (Yl.move rfl) rfl ?_
    refine TL.val (Yl.add rfl rfl (wI (by omega))) rfl ?_
    refine TL.val (Yl.assign rfl) rfl ?_
    refine TL.next ?_
    refine TC.seq ?_
    refine TC.seq ?_
    refine TC.region ?_
    refine TL.val (Yl.move rfl) rfl ?_
    refine TL.val (Yl.load1 (v := eofV ea) Tryz.underlying58 rfl rfl (by repeat (first | exact Foc.head | apply Foc.tail | apply Foc.right)) rfl) rfl ?_
    refine TL.val (Yl.eqlN Tryz.underlying58 rfl rfl) rfl ?_
    refine TL.val (Yl.move rfl) rfl ?_
    refine TL.no rfl rfl rfl rfl rfl ?_
    refine TL.no rfl rfl rfl rfl rfl ?_
    refine TL.no rfl rfl rfl rfl rfl ?_
    refine TL.no rfl rfl rfl rfl rfl ?_
    refine TL.val (Yl.pickF rfl rfl) rfl ?_
    refine TL.next ?_
    refine TC.no rfl ?_
    refine TC.skip_next ?_
    refine TC.seq ?_
    refine TC.region ?_
    refine TL.val (Yl.move rfl) rfl ?_
    refine TL.val (Yl.neqNilN Tryz.underlying58 rfl rfl) rfl ?_
    refine TL.next ?_
    refine TC.no rfl ?_
    exact TC.skip (Inv.again (⟨i + r.1.1, r.2⟩, layB l (i - (n + left)) ((d.drop i).take r.1.1)) ⟨by show (n + left) ≤ i + r.1.1; omega, by show i + r.1.1 ≤ (n + left) + pad; omega, by show (layB l (i - (n + left)) ((d.drop i).take r.1.1)).length = pad; rw [layB_length (by rw [take_len (by omega)]; omega)]; exact h3⟩ (by show (n + left) + pad - (i + r.1.1) < (n + left) + pad - i; omega) ⟨rfl, rfl, (congrArg (fun z => some (Value.int .i64 z)) (by show _ = ((i + r.1.1 : Nat) : Int) - ((n + left) : Nat); omega)), trivial⟩ (fun _ h => h))
  · replace hc48 := of_decide_eq_false hc48
    refine TC.exit_next rfl ?_
    refine TC.seq ?_
    obtain rfl : i = n + left + pad := by omega
    refine TC.region ?_
    refine TL.val (Yl.move rfl) rfl ?_
    refine TL.val (Yl.nilCheckP rfl) rfl ?_
    refine TL.val (Yl.fieldAddr (k := 2) (m := 1) (o := 1) Tryz.underlying182 rfl sz2 rfl rfl) rfl ?_
    refine TL.skp (Skp.store1 (cs' := [.iface R.t R.v, .int .i64 0, .iface R.t R.v, .int .i64 (left : Int), .nilIface]) sz2 rfl rfl rfl (by repeat (first | exact Foc.head | apply Foc.tail | apply Foc.right)) (Nat.le_of_ble_eq_true rfl) rfl) ?_
    refine TL.next ?_
    refine TC.seq ?_
    refine TC.region ?_
    refine TL.val (Yl.assign rfl) rfl ?_
    refine TL.next ?_
    exact TC.back1 s rfl rfl (fun _ h => Own.hdr0 h)
end Go.Proofs.YtlhncphipfkkjaaGreatDoor

/- More laws: to range over a map that is nil. -/
namespace Go.Proofs.YtlhncphipfkkjaaGreatDoor
open Go
variable {P : Program} {F : FL} {H : HL} {g : World} {d : Option Nat} {ty : TypeId} {pos : String} {aft : Array Edge} {gd : Option (Nat × Bool)}
theorem Eff.rangeNil {t k e : TypeId} {x : Operand} (hu : P.underlying t = some (.map k e)) (hx : ev F x = some (.map none)) :
    Eff P F g H ⟨d, .range t x, ty, pos, aft, gd⟩ Nat (fun b => pt b 0) (fun b => (b, .mapIter none 0 #[] 0) :: H) := fun a w hf ho => by
  refine ⟨w.heap.size, w.alloc (.mapIter none 0 #[] 0), ?_, ho.alloc _⟩
  simp [execOp, hf.eval hx, Instr.range, run_underlying hu]
theorem Yl.nextNil {x : Operand} {b : Nat} {K : Obj → HL} (hx : ev F x = some (pt b 0)) (hF : Foc H b (.mapIter none 0 #[] 0) K) :
    Yl P F H ⟨d, .next x false, ty, pos, aft, gd⟩ (.tuple #[.bool false]) := fun a g w hf ho => by
  have hb := ho.at hF
  have hgo : (getObj b).run P w = .ok (.mapIter none 0 #[] 0) w := by simp [getObj, Sem.run, hb]
  simp [execOp, hf.eval hx, Instr.next, hgo]
end Go.Proofs.YtlhncphipfkkjaaGreatDoor

namespace Go.Proofs.YtlhncphipfkkjaaGreatDoor
open Go
theorem keys_q : Quiet Tryz.prog 76 #[.map none] [] (.slice none 0 0) := by
  refine Quiet.of_gives fun g Fr => ?_
  refine Gives.enter Tryz.func76 rfl Tryz.ntmps76 rfl ?_
  refine TC.seq ?_
  refine TC.region ?_
  refine TL.val (Yl.assign rfl) rfl ?_
  refine TL.next ?_
  refine TC.seq ?_
  refine TC.region ?_
  refine TL.val (Yl.assign rfl) rfl ?_
  refine TL.next ?_
  refine TC.seq ?_
  refine TC.seq ?_
  refine TC.region ?_
  refine TL.val (Yl.move rfl) rfl ?_
  refine TL.eff (Eff.rangeNil Tryz.underlying44 rfl) rfl fun b8 => ?_
  refine TL.next ?_
  refine TC.block ?_
  refine TC.loopI (σ := Unit) (fun u => [(3, .slice none 0 0), (8, pt b8 0)]) (fun u => (b8, .mapIter none 0 #[] 0) :: Fr) (fun u => True) (fun u => 0) () ⟨rfl, rfl, trivial⟩ (fun _ h => h) trivial (fun u hu => ?_)
  refine TC.seq ?_
  refine TC.region ?_
  refine TL.val (Yl.nextNil rfl (by repeat (first | exact Foc.head | apply Foc.tail | apply Foc.right))) rfl ?_
  refine TL.val (Yl.extract rfl rfl) rfl ?_
  refine TL.next ?_
  refine TC.seq ?_
  refine TC.no rfl ?_
  refine TC.exit_next rfl ?_
  refine TC.seq ?_
  refine TC.seq ?_
  refine TC.region ?_
  refine TL.val (Yl.assign rfl) rfl ?_
  refine TL.next ?_
  refine TC.block ?_
  refine TC.loopI (σ := Unit) (fun u2 => [(3, .slice none 0 0), (5, .int .i64 1)]) (fun u2 => (b8, .mapIter none 0 #[] 0) :: Fr) (fun u2 => True) (fun u2 => 0) () ⟨rfl, rfl, trivial⟩ (fun _ h => h) trivial (fun u2 hu2 => ?_)
  refine TC.seq ?_
  refine TC.seq ?_
  refine TC.region ?_
  refine TL.val (Yl.move rfl) rfl ?_
  refine TL.val (Yl.move rfl) rfl ?_
  refine TL.val (Yl.lenL Tryz.underlying37 rfl) rfl ?_
  refine TL.val (Yl.lss (b := false) rfl rfl rfl) rfl ?_
  refine TL.next ?_
  refine TC.no rfl ?_
  refine TC.exit_next rfl ?_
  refine TC.seq ?_
  refine TC.region ?_
  refine TL.val (Yl.move rfl) rfl ?_
  refine TL.val (Yl.assign rfl) rfl ?_
  refine TL.next ?_
  exact TC.back1 () rfl rfl (fun _ h => h.sub (by repeat (first | exact List.Sublist.refl _ | exact List.sublist_append_right _ _ | refine List.Sublist.cons_cons _ ?_ | refine List.Sublist.cons _ ?_)))
theorem merge_g (e : TE) (f : Int) (bh : Nat) (g : World) (Fr : HL) : Gives Tryz.prog 57 #[pt bh 0, .map none] g ((bh, oC (hdrL e f) 124) :: Fr) Unit (fun _ => .nilIface) (fun _ => (bh, oC (hdrL e f) 124) :: Fr) := by
  refine Gives.enter Tryz.func57 rfl Tryz.ntmps57 rfl ?_
  refine TC.seq ?_
  refine TC.region ?_
  refine TL.val (Yl.assign rfl) rfl ?_
  refine TL.next ?_
  refine TC.seq ?_
  refine TC.region ?_
  refine TL.val (Yl.assign rfl) rfl ?_
  refine TL.next ?_
  refine TC.seq ?_
  refine TC.seq ?_
  refine TC.region ?_
  refine TL.val (Yl.move rfl) rfl ?_
  refine TL.quiet (Cll.func (xs := [_]) (vs := [_]) Tryz.func76 rfl (by kernel_rfl) ⟨rfl, trivial⟩) rfl (Quiet.none (keys_q)) ?_
  refine TL.val (Yl.lenL Tryz.underlying37 rfl) rfl ?_
  refine TL.val (Yl.move rfl) rfl ?_
  refine TL.next ?_
  refine TC.block ?_
  refine TC.loopI (σ := Unit) (fun u => [(0, pt bh 0), (1, .map none), (11, .int .i64 0), (12, .int .i64 0)]) (fun u => (bh, oC (hdrL e f) 124) :: Fr) (fun u => True) (fun u => 0) () ⟨rfl, rfl, rfl, rfl, trivial⟩ (fun _ h => h) trivial (fun u hu => ?_)
  refine TC.seq ?_
  refine TC.region ?_
  refine TL.val (Yl.lss (b := false) rfl rfl rfl) rfl ?_
  refine TL.next ?_
  refine TC.seq ?_
  refine TC.no rfl ?_
  refine TC.exit_next rfl ?_
  refine TC.seq ?_
  refine TC.region ?_
  refine TL.val (Yl.move rfl) rfl ?_
  refine TL.val (Yl.move rfl) rfl ?_
  refine TL.val (Yl.nilCheckP rfl) rfl ?_
  refine TL.val (Yl.fieldAddr (k := 44) (m := 20) (o := 20) Tryz.underlying124 rfl sz44 rfl rfl) rfl ?_
  refine TL.skp (Skp.store1 (cs' := hdrL e f) sz44 rfl rfl rfl (by repeat (first | exact Foc.head | apply Foc.tail | apply Foc.right)) (Nat.le_of_ble_eq_true rfl) rfl) ?_
  refine TL.next ?_
  refine TC.seq ?_
  refine TC.region ?_
  refine TL.val (Yl.assign rfl) rfl ?_
  refine TL.next ?_
  exact TC.back1 () rfl rfl (fun _ h => h)
end Go.Proofs.YtlhncphipfkkjaaGreatDoor

namespace Go.Proofs.YtlhncphipfkkjaaGreatDoor
open Go
theorem nextTarEnd_g {ea : Addr} {d : List UInt8} (R : Rdr ea d) (hdl : d.length ≤ 1099511627776) (n left pad : Nat) (s : R.St n) (hl : left ≤ 30000) (hp : pad ≤ 30000) (hd : n + left + pad + 1024 ≤ d.length) (hz : (d.drop (n + left + pad)).take 512 = List.replicate 512 0) (hz2 : (d.drop (n + left + pad + 512)).take 512 = List.replicate 512 0) (bt : Nat) (g : World) (Fr : HL) : Gives Tryz.prog 45 #[pt bt 0] g ((bt, oC [.iface R.t R.v, .int .i64 (pad : Int), .iface R.t R.v, .int .i64 (left : Int), .nilIface] 182) :: (R.heap n s ++ (eofB ea :: Fr))) (R.St (n + left + pad + 512 + 512)) (fun _ => .tuple #[.pointer none, eofV ea])
    (fun q => (bt, oC [.iface R.t R.v, .int .i64 0, .iface R.t R.v, .int .i64 (left : Int), .nilIface] 182) :: (R.heap (n + left + pad + 512 + 512) q ++ (eofB ea :: Fr))) := by
  refine Gives.enter Tryz.func45 rfl Tryz.ntmps45 rfl ?_
  refine TC.seq ?_
  refine TC.region ?_
  refine TL.val (Yl.assign rfl) rfl ?_
  refine TL.val (Yl.assign rfl) rfl ?_
  refine TL.next ?_
  refine TC.seq ?_
  refine TC.region ?_
  refine TL.val (Yl.assign rfl) rfl ?_
  refine TL.next ?_
  refine TC.seq ?_
  refine TC.region ?_
  refine TL.val (Yl.assign rfl) rfl ?_
  refine TL.val (Yl.assign rfl) rfl ?_
  refine TL.next ?_
  refine TC.seq ?_
  refine TC.region ?_
  refine TL.val (Yl.assign rfl) rfl ?_
  refine TL.next ?_
  refine TC.block ?_
  refine TC.loopI (σ := Unit) (fun u => [(0, pt bt 0)]) (fun u => (bt, oC [.iface R.t R.v, .int .i64 (pad : Int), .iface R.t R.v, .int .i64 (left : Int), .nilIface] 182) :: (R.heap n s ++ (eofB ea :: Fr))) (fun u => True) (fun u => 0) () ⟨rfl, trivial⟩ (fun _ h => h) trivial (fun u hu => ?_)
  refine TC.block ?_
  refine TC.seq ?_
  refine TC.seq ?_
  refine TC.region ?_
  refine TL.val (Yl.move rfl) rfl ?_
  refine TL.call (Cll.func (xs := [_]) (vs := [_]) Tryz.func52 rfl (by kernel_rfl) ⟨rfl, trivial⟩) rfl (skip_g R hdl n left pad s (by omega) hl hp bt g Fr) fun q => ?_
  refine TL.val (Yl.assign rfl) rfl ?_
  refine TL.next ?_
  refine TC.seq ?_
  refine TC.region ?_
  refine TL.val (Yl.move rfl) rfl ?_
  refine TL.val (Yl.neqNilN Tryz.underlying58 rfl rfl) rfl ?_
  refine TL.next ?_
  refine TC.no rfl ?_
  refine TC.skip_next ?_
  refine TC.seq ?_
  refine TC.region ?_
  refine TL.val (Yl.move rfl) rfl ?_
  refine TL.call (Cll.func (xs := [_]) (vs := [_]) Tryz.func53 rfl (by kernel_rfl) ⟨rfl, trivial⟩) rfl (tarEnd_g R (n + left + pad) q hd hdl hz hz2 0 left bt g Fr) fun q2 => ?_
  refine TL.val (Yl.move rfl) rfl ?_
  refine TL.val (Yl.extract rfl rfl) rfl ?_
  refine TL.val (Yl.extract rfl rfl) rfl ?_
  refine TL.val (Yl.assign rfl) rfl ?_
  refine TL.val (Yl.assign rfl) rfl ?_
  refine TL.next ?_
  refine TC.seq ?_
  refine TC.seq ?_
  refine TC.region ?_
  refine TL.val (Yl.move rfl) rfl ?_
  refine TL.val (Yl.neqNilI Tryz.underlying58 rfl rfl) rfl ?_
  refine TL.next ?_
  refine TC.yes rfl ?_
  refine TC.seq ?_
  refine TC.region ?_
  refine TL.val (Yl.move rfl) rfl ?_
  refine TL.val (Yl.assign rfl) rfl ?_
  refine TL.val (Yl.assign rfl) rfl ?_
  refine TL.next ?_
  exact TC.back2 q2 rfl rfl rfl rfl (fun _ h => h)
end Go.Proofs.YtlhncphipfkkjaaGreatDoor

namespace Go.Proofs.YtlhncphipfkkjaaGreatDoor
open Go
variable {P : Program} {F : FL} {H : HL} {x y : Operand} {t t' : TypeId} {dd : Option Nat} {ty : TypeId} {pos : String} {aft : Array Edge} {gd : Option (Nat × Bool)}
theorem Yl.and3 (hx : ev F x = some (.int .i64 3)) (hy : ev F y = some (.int .i64 2)) : Yl P F H ⟨dd, .binOp .and t x y t', ty, pos, aft, gd⟩ (.int .i64 2) := fun _ g w hf _ => by
  simp [execOp, hf.eval hx, hf.eval hy, eqGuard, binOp]
  rfl
set_option maxHeartbeats 1000000 in
theorem nextTar48_g {ea : Addr} {d : List UInt8} (R : Rdr ea d) (hdl : d.length ≤ 1099511627776) (n left pad : Nat) (s : R.St n) (hl : left ≤ 30000) (hp : pad ≤ 30000) (e : TE) (hfl : e.flag = 48) (he : e.name.length ≤ 100 ∧ e.link.length ≤ 100 ∧ e.data.length ≤ 100000 ∧ e.mode ≤ 100000) (hd : n + left + pad + 512 ≤ d.length) (hhd : (d.drop (n + left + pad)).take 512 = tarHead e) (bt : Nat) (g : World) (Fr : HL) : Gives Tryz.prog 45 #[pt bt 0] g ((bt, oC [.iface R.t R.v, .int .i64 (pad : Int), .iface R.t R.v, .int .i64 (left : Int), .nilIface] 182) :: (R.heap n s ++ (eofB ea :: Fr))) ((_ : Nat) × Int × R.St (n + left + pad + 512)) (fun q => .tuple #[pt q.1 0, .nilIface])
    (fun q => (q.1, oC (hdrL e q.2.1) 124) :: (bt, oC [.iface R.t R.v, .int .i64 ((padLen e.data.length : Nat) : Int), .iface R.t R.v, .int .i64 ((e.data.length : Nat) : Int), .nilIface] 182) :: (R.heap (n + left + pad + 512) q.2.2 ++ (eofB ea :: Fr))) := by
  refine Gives.enter Tryz.func45 rfl Tryz.ntmps45 rfl ?_
  refine TC.seq ?_
  refine TC.region ?_
  refine TL.val (Yl.assign rfl) rfl ?_
  refine TL.val (Yl.assign rfl) rfl ?_
  refine TL.next ?_
  refine TC.seq ?_
  refine TC.region ?_
  refine TL.val (Yl.assign rfl) rfl ?_
  refine TL.next ?_
  refine TC.seq ?_
  refine TC.region ?_
  refine TL.val (Yl.assign rfl) rfl ?_
  refine TL.val (Yl.assign rfl) rfl ?_
  refine TL.next ?_
  refine TC.seq ?_
  refine TC.region ?_
  refine TL.val (Yl.assign rfl) rfl ?_
  refine TL.next ?_
  refine TC.block ?_
  refine TC.loopI (σ := Unit) (fun u => [(0, pt bt 0), (4, .map none), (5, vS []), (6, vS []), (7, .int .i64 7)]) (fun u => (bt, oC [.iface R.t R.v, .int .i64 (pad : Int), .iface R.t R.v, .int .i64 (left : Int), .nilIface] 182) :: (R.heap n s ++ (eofB ea :: Fr))) (fun u => True) (fun u => 0) () ⟨rfl, rfl, rfl, rfl, rfl, trivial⟩ (fun _ h => h) trivial (fun u hu => ?_)
  refine TC.block ?_
  refine TC.seq ?_
  refine TC.seq ?_
  refine TC.region ?_
  refine TL.val (Yl.move rfl) rfl ?_
  refine TL.call (Cll.func (xs := [_]) (vs := [_]) Tryz.func52 rfl (by kernel_rfl) ⟨rfl, trivial⟩) rfl (skip_g R hdl n left pad s (by omega) hl hp bt g Fr) fun q => ?_
  refine TL.val (Yl.assign rfl) rfl ?_
  refine TL.next ?_
  refine TC.seq ?_
  refine TC.region ?_
  refine TL.val (Yl.move rfl) rfl ?_
  refine TL.val (Yl.neqNilN Tryz.underlying58 rfl rfl) rfl ?_
  refine TL.next ?_
  refine TC.no rfl ?_
  refine TC.skip_next ?_
  refine TC.seq ?_
  refine TC.region ?_
  refine TL.val (Yl.move rfl) rfl ?_
  refine TL.call (Cll.func (xs := [_]) (vs := [_]) Tryz.func53 rfl (by kernel_rfl) ⟨rfl, trivial⟩) rfl (tarHeader_g R (n + left + pad) q e he hd hdl hhd 0 left bt g Fr) fun r => ?_
  obtain ⟨bh, ⟨f, s3⟩, hf⟩ := r
  dsimp only at hf ⊢
  refine TL.val (Yl.move rfl) rfl ?_
  refine TL.val (Yl.extract rfl rfl) rfl ?_
  refine TL.val (Yl.extract rfl rfl) rfl ?_
  refine TL.val (Yl.assign rfl) rfl ?_
  refine TL.val (Yl.assign rfl) rfl ?_
  refine TL.next ?_
  refine TC.seq ?_
  refine TC.seq ?_
  refine TC.region ?_
  refine TL.val (Yl.move rfl) rfl ?_
  refine TL.val (Yl.neqNilN Tryz.underlying58 rfl rfl) rfl ?_
  refine TL.next ?_
  refine TC.no rfl ?_
  refine TC.skip_next ?_
  refine TC.seq ?_
  refine TC.seq ?_
  refine TC.region ?_
  refine TL.val (Yl.move rfl) rfl ?_
  refine TL.val (Yl.move rfl) rfl ?_
  refine TL.call (Cll.func (xs := [_, _]) (vs := [_, _]) Tryz.func54 rfl (by kernel_rfl) ⟨rfl, rfl, trivial⟩) rfl (Gives.of (fun _ h => Pulls.own (.cons (by repeat (first | exact Pull.head | apply Pull.tail | apply Pull.right)) (.cons (by repeat (first | exact Pull.head | apply Pull.tail | apply Pull.right)) .nil)) _ h) (data48_g R e.data.length (by omega) _ _ (hdrL e f) rfl (by rw [hdrL, hfl]; rfl) bt bh g _)) fun _ => ?_
  refine TL.val (Yl.assign rfl) rfl ?_
  refine TL.next ?_
  refine TC.seq ?_
  refine TC.region ?_
  refine TL.val (Yl.move rfl) rfl ?_
  refine TL.val (Yl.neqNilN Tryz.underlying58 rfl rfl) rfl ?_
  refine TL.next ?_
  refine TC.no rfl ?_
  refine TC.skip_next ?_
  refine TC.seq ?_
  by_cases hf0 : f = 0
  · subst hf0
    refine TC.region ?_
    refine TL.val (Yl.move rfl) rfl ?_
    refine TL.val (Yl.move rfl) rfl ?_
    refine TL.val (Yl.nilCheckP rfl) rfl ?_
    refine TL.val (Yl.fieldAddr (k := 122) (m := 21) Tryz.underlying124 rfl sz122 rfl rfl) rfl ?_
    refine TL.val (Yl.load1 (v := .int .i64 0) Tryz.underlying122 rfl rfl (by repeat (first | exact Foc.head | apply Foc.tail | apply Foc.right)) rfl) rfl ?_
    refine TL.val (Yl.mask 0 rfl rfl rfl rfl) rfl ?_
    refine TL.val (Yl.assign rfl) rfl ?_
    refine TL.next ?_
    refine TC.seq ?_
    refine TC.seq ?_
    refine TC.region ?_
    refine TL.val (Yl.move rfl) rfl ?_
    refine TL.val (Yl.nilCheckP rfl) rfl ?_
    refine TL.val (Yl.fieldAddr (k := 5) (m := 0) Tryz.underlying124 rfl sz5 rfl rfl) rfl ?_
    refine TL.val (Yl.load1 (v := .int .u8 48) Tryz.underlying5 rfl rfl (by repeat (first | exact Foc.head | apply Foc.tail | apply Foc.right)) (by rw [hdrL, hfl]; rfl)) rfl ?_
    refine TL.next ?_
    refine TC.block ?_
    refine TC.seq ?_
    refine TC.seq ?_
    refine TC.region ?_
    refine TL.val (Yl.eql (b := false) rfl rfl rfl) rfl ?_
    refine TL.val (Yl.assign rfl) rfl ?_
    refine TL.next ?_
    refine TC.no rfl ?_
    refine TC.region ?_
    refine TL.val (Yl.eql (b := false) rfl rfl rfl) rfl ?_
    refine TL.val (Yl.assign rfl) rfl ?_
    refine TL.next ?_
    refine TC.no rfl ?_
    refine TC.seq ?_
    refine TC.seq ?_
    refine TC.region ?_
    refine TL.val (Yl.eql (b := false) rfl rfl rfl) rfl ?_
    refine TL.val (Yl.assign rfl) rfl ?_
    refine TL.next ?_
    refine TC.no rfl ?_
    refine TC.region ?_
    refine TL.val (Yl.eql (b := false) rfl rfl rfl) rfl ?_
    refine TL.val (Yl.assign rfl) rfl ?_
    refine TL.next ?_
    refine TC.no rfl ?_
    refine TC.seq ?_
    refine TC.region ?_
    refine TL.val (Yl.eql (b := false) rfl rfl rfl) rfl ?_
    refine TL.val (Yl.assign rfl) rfl ?_
    refine TL.next ?_
    refine TC.no rfl ?_
    refine TC.skip_next ?_
    refine TC.seq ?_
    refine TC.seq ?_
    refine TC.region ?_
    refine TL.val (Yl.move rfl) rfl ?_
    refine TL.val (Yl.move rfl) rfl ?_
    refine TL.call (Cll.func (xs := [_, _]) (vs := [_, _]) Tryz.func57 rfl (by kernel_rfl) ⟨rfl, rfl, trivial⟩) rfl (Gives.of (fun _ h => Pulls.own (.cons (by repeat (first | exact Pull.head | apply Pull.tail | apply Pull.right)) .nil) _ h) (merge_g e 0 bh g _)) fun _ => ?_
    refine TL.val (Yl.assign rfl) rfl ?_
    refine TL.next ?_
    refine TC.seq ?_
    refine TC.region ?_
    refine TL.val (Yl.move rfl) rfl ?_
    refine TL.val (Yl.neqNilN Tryz.underlying58 rfl rfl) rfl ?_
    refine TL.next ?_
    refine TC.no rfl ?_
    refine TC.skip_next ?_
    refine TC.seq ?_
    refine TC.seq ?_
    refine TC.region ?_
    refine TL.val (Yl.move rfl) rfl ?_
    refine TL.val (Yl.neqS (r := false) rfl rfl rfl) rfl ?_
    refine TL.next ?_
    refine TC.no rfl ?_
    refine TC.skip_next ?_
    refine TC.seq ?_
    refine TC.seq ?_
    refine TC.region ?_
    refine TL.val (Yl.move rfl) rfl ?_
    refine TL.val (Yl.neqS (r := false) rfl rfl rfl) rfl ?_
    refine TL.next ?_
    refine TC.no rfl ?_
    refine TC.skip_next ?_
    refine TC.seq ?_
    refine TC.seq ?_
    refine TC.region ?_
    refine TL.val (Yl.move rfl) rfl ?_
    refine TL.val (Yl.nilCheckP rfl) rfl ?_
    refine TL.val (Yl.fieldAddr (k := 5) (m := 0) Tryz.underlying124 rfl sz5 rfl rfl) rfl ?_
    refine TL.val (Yl.load1 (v := .int .u8 48) Tryz.underlying5 rfl rfl (by repeat (first | exact Foc.head | apply Foc.tail | apply Foc.right)) (by rw [hdrL, hfl]; rfl)) rfl ?_
    refine TL.val (Yl.eql (b := false) rfl rfl rfl) rfl ?_
    refine TL.next ?_
    refine TC.no rfl ?_
    refine TC.skip_next ?_
    refine TC.seq ?_
    refine TC.seq ?_
    refine TC.region ?_
    refine TL.val (Yl.move rfl) rfl ?_
    refine TL.val (Yl.move rfl) rfl ?_
    refine TL.call (Cll.func (xs := [_, _]) (vs := [_, _]) Tryz.func54 rfl (by kernel_rfl) ⟨rfl, rfl, trivial⟩) rfl (Gives.of (fun _ h => Pulls.own (.cons (by repeat (first | exact Pull.head | apply Pull.tail | apply Pull.right)) (.cons (by repeat (first | exact Pull.head | apply Pull.tail | apply Pull.right)) .nil)) _ h) (data48_g R e.data.length (by omega) _ _ (hdrL e 0) rfl (by rw [hdrL, hfl]; rfl) bt bh g _)) fun _ => ?_
    refine TL.val (Yl.assign rfl) rfl ?_
    refine TL.next ?_
    refine TC.seq ?_
    refine TC.region ?_
    refine TL.val (Yl.move rfl) rfl ?_
    refine TL.val (Yl.neqNilN Tryz.underlying58 rfl rfl) rfl ?_
    refine TL.next ?_
    refine TC.no rfl ?_
    refine TC.skip_next ?_
    refine TC.seq ?_
    refine TC.seq ?_
    refine TC.region ?_
    refine TL.val (Yl.move rfl) rfl ?_
    refine TL.val (Yl.mask 1 rfl rfl rfl rfl) rfl ?_
    refine TL.val (Yl.neq (b := false) rfl rfl rfl) rfl ?_
    refine TL.val (Yl.move rfl) rfl ?_
    refine TL.no rfl rfl rfl rfl rfl ?_
    refine TL.no rfl rfl rfl rfl rfl ?_
    refine TL.no rfl rfl rfl rfl rfl ?_
    refine TL.val (Yl.pickF rfl rfl) rfl ?_
    refine TL.next ?_
    refine TC.no rfl ?_
    refine TC.skip_next ?_
    refine TC.seq ?_
    refine TC.region ?_
    refine TL.val (Yl.move rfl) rfl ?_
    refine TL.val (Yl.move rfl) rfl ?_
    refine TL.val (Yl.nilCheckP rfl) rfl ?_
    refine TL.val (Yl.fieldAddr (k := 122) (m := 21) Tryz.underlying124 rfl sz122 rfl rfl) rfl ?_
    refine TL.skp (Skp.store1 (v := .int .i64 0) (cs' := hdrL e 0) sz122 rfl rfl rfl (by repeat (first | exact Foc.head | apply Foc.tail | apply Foc.right)) (Nat.le_of_ble_eq_true rfl) rfl) ?_
    refine TL.next ?_
    refine TC.seq ?_
    refine TC.region ?_
    refine TL.val (Yl.move rfl) rfl ?_
    refine TL.val (Yl.assign rfl) rfl ?_
    refine TL.val (Yl.assign rfl) rfl ?_
    refine TL.next ?_
    exact TC.back2 ⟨bh, 0, s3⟩ rfl rfl rfl rfl (fun _ h => Pulls.own (.cons (by repeat (first | exact Pull.head | apply Pull.tail | apply Pull.right)) (.cons (by repeat (first | exact Pull.head | apply Pull.tail | apply Pull.right)) .nil)) _ h)
  · replace hf0 : f = 3 := by rcases hf with h | h
                              · exact absurd h hf0
                              · exact h
    subst hf0
    refine TC.region ?_
    refine TL.val (Yl.move rfl) rfl ?_
    refine TL.val (Yl.move rfl) rfl ?_
    refine TL.val (Yl.nilCheckP rfl) rfl ?_
    refine TL.val (Yl.fieldAddr (k := 122) (m := 21) Tryz.underlying124 rfl sz122 rfl rfl) rfl ?_
    refine TL.val (Yl.load1 (v := .int .i64 3) Tryz.underlying122 rfl rfl (by repeat (first | exact Foc.head | apply Foc.tail | apply Foc.right)) rfl) rfl ?_
    refine TL.val (Yl.mask 2 rfl rfl rfl rfl) rfl ?_
    refine TL.val (Yl.assign rfl) rfl ?_
    refine TL.next ?_
    refine TC.seq ?_
    refine TC.seq ?_
    refine TC.region ?_
    refine TL.val (Yl.move rfl) rfl ?_
    refine TL.val (Yl.nilCheckP rfl) rfl ?_
    refine TL.val (Yl.fieldAddr (k := 5) (m := 0) Tryz.underlying124 rfl sz5 rfl rfl) rfl ?_
    refine TL.val (Yl.load1 (v := .int .u8 48) Tryz.underlying5 rfl rfl (by repeat (first | exact Foc.head | apply Foc.tail | apply Foc.right)) (by rw [hdrL, hfl]; rfl)) rfl ?_
    refine TL.next ?_
    refine TC.block ?_
    refine TC.seq ?_
    refine TC.seq ?_
    refine TC.region ?_
    refine TL.val (Yl.eql (b := false) rfl rfl rfl) rfl ?_
    refine TL.val (Yl.assign rfl) rfl ?_
    refine TL.next ?_
    refine TC.no rfl ?_
    refine TC.region ?_
    refine TL.val (Yl.eql (b := false) rfl rfl rfl) rfl ?_
    refine TL.val (Yl.assign rfl) rfl ?_
    refine TL.next ?_
    refine TC.no rfl ?_
    refine TC.seq ?_
    refine TC.seq ?_
    refine TC.region ?_
    refine TL.val (Yl.eql (b := false) rfl rfl rfl) rfl ?_
    refine TL.val (Yl.assign rfl) rfl ?_
    refine TL.next ?_
    refine TC.no rfl ?_
    refine TC.region ?_
    refine TL.val (Yl.eql (b := false) rfl rfl rfl) rfl ?_
    refine TL.val (Yl.assign rfl) rfl ?_
    refine TL.next ?_
    refine TC.no rfl ?_
    refine TC.seq ?_
    refine TC.region ?_
    refine TL.val (Yl.eql (b := false) rfl rfl rfl) rfl ?_
    refine TL.val (Yl.assign rfl) rfl ?_
    refine TL.next ?_
    refine TC.no rfl ?_
    refine TC.skip_next ?_
    refine TC.seq ?_
    refine TC.seq ?_
    refine TC.region ?_
    refine TL.val (Yl.move rfl) rfl ?_
    refine TL.val (Yl.move rfl) rfl ?_
    refine TL.call (Cll.func (xs := [_, _]) (vs := [_, _]) Tryz.func57 rfl (by kernel_rfl) ⟨rfl, rfl, trivial⟩) rfl (Gives.of (fun _ h => Pulls.own (.cons (by repeat (first | exact Pull.head | apply Pull.tail | apply Pull.right)) .nil) _ h) (merge_g e 3 bh g _)) fun _ => ?_
    refine TL.val (Yl.assign rfl) rfl ?_
    refine TL.next ?_
    refine TC.seq ?_
    refine TC.region ?_
    refine TL.val (Yl.move rfl) rfl ?_
    refine TL.val (Yl.neqNilN Tryz.underlying58 rfl rfl) rfl ?_
    refine TL.next ?_
    refine TC.no rfl ?_
    refine TC.skip_next ?_
    refine TC.seq ?_
    refine TC.seq ?_
    refine TC.region ?_
    refine TL.val (Yl.move rfl) rfl ?_
    refine TL.val (Yl.neqS (r := false) rfl rfl rfl) rfl ?_
    refine TL.next ?_
    refine TC.no rfl ?_
    refine TC.skip_next ?_
    refine TC.seq ?_
    refine TC.seq ?_
    refine TC.region ?_
    refine TL.val (Yl.move rfl) rfl ?_
    refine TL.val (Yl.neqS (r := false) rfl rfl rfl) rfl ?_
    refine TL.next ?_
    refine TC.no rfl ?_
    refine TC.skip_next ?_
    refine TC.seq ?_
    refine TC.seq ?_
    refine TC.region ?_
    refine TL.val (Yl.move rfl) rfl ?_
    refine TL.val (Yl.nilCheckP rfl) rfl ?_
    refine TL.val (Yl.fieldAddr (k := 5) (m := 0) Tryz.underlying124 rfl sz5 rfl rfl) rfl ?_
    refine TL.val (Yl.load1 (v := .int .u8 48) Tryz.underlying5 rfl rfl (by repeat (first | exact Foc.head | apply Foc.tail | apply Foc.right)) (by rw [hdrL, hfl]; rfl)) rfl ?_
    refine TL.val (Yl.eql (b := false) rfl rfl rfl) rfl ?_
    refine TL.next ?_
    refine TC.no rfl ?_
    refine TC.skip_next ?_
    refine TC.seq ?_
    refine TC.seq ?_
    refine TC.region ?_
    refine TL.val (Yl.move rfl) rfl ?_
    refine TL.val (Yl.move rfl) rfl ?_
    refine TL.call (Cll.func (xs := [_, _]) (vs := [_, _]) Tryz.func54 rfl (by kernel_rfl) ⟨rfl, rfl, trivial⟩) rfl (Gives.of (fun _ h => Pulls.own (.cons (by repeat (first | exact Pull.head | apply Pull.tail | apply Pull.right)) (.cons (by repeat (first | exact Pull.head | apply Pull.tail | apply Pull.right)) .nil)) _ h) (data48_g R e.data.length (by omega) _ _ (hdrL e 3) rfl (by rw [hdrL, hfl]; rfl) bt bh g _)) fun _ => ?_
    refine TL.val (Yl.assign rfl) rfl ?_
    refine TL.next ?_
    refine TC.seq ?_
    refine TC.region ?_
    refine TL.val (Yl.move rfl) rfl ?_
    refine TL.val (Yl.neqNilN Tryz.underlying58 rfl rfl) rfl ?_
    refine TL.next ?_
    refine TC.no rfl ?_
    refine TC.skip_next ?_
    refine TC.seq ?_
    refine TC.seq ?_
    refine TC.region ?_
    refine TL.val (Yl.move rfl) rfl ?_
    refine TL.val (Yl.mask 1 rfl rfl rfl rfl) rfl ?_
    refine TL.val (Yl.neq (b := true) rfl rfl rfl) rfl ?_
    refine TL.val (Yl.move rfl) rfl ?_
    refine TL.yes rfl rfl rfl ?_
    refine TL.val (Yl.move rfl) rfl ?_
    refine TL.yes rfl rfl rfl ?_
    refine TL.val (Yl.and3 rfl rfl) rfl ?_
    refine TL.yes rfl rfl rfl ?_
    refine TL.val (Yl.neq (b := true) rfl rfl rfl) rfl ?_
    refine TL.val (Yl.pickT rfl rfl) rfl ?_
    refine TL.next ?_
    refine TC.yes rfl ?_
    refine TC.region ?_
    refine TL.val (Yl.assign rfl) rfl ?_
    refine TL.next ?_
    refine TC.seq ?_
    refine TC.region ?_
    refine TL.val (Yl.move rfl) rfl ?_
    refine TL.val (Yl.move rfl) rfl ?_
    refine TL.val (Yl.nilCheckP rfl) rfl ?_
    refine TL.val (Yl.fieldAddr (k := 122) (m := 21) Tryz.underlying124 rfl sz122 rfl rfl) rfl ?_
    refine TL.skp (Skp.store1 (v := .int .i64 1) (cs' := hdrL e 1) sz122 rfl rfl rfl (by repeat (first | exact Foc.head | apply Foc.tail | apply Foc.right)) (Nat.le_of_ble_eq_true rfl) rfl) ?_
    refine TL.next ?_
    refine TC.seq ?_
    refine TC.region ?_
    refine TL.val (Yl.move rfl) rfl ?_
    refine TL.val (Yl.assign rfl) rfl ?_
    refine TL.val (Yl.assign rfl) rfl ?_
    refine TL.next ?_
    exact TC.back2 ⟨bh, 1, s3⟩ rfl rfl rfl rfl (fun _ h => Pulls.own (.cons (by repeat (first | exact Pull.head | apply Pull.tail | apply Pull.right)) (.cons (by repeat (first | exact Pull.head | apply Pull.tail | apply Pull.right)) .nil)) _ h)
set_option maxHeartbeats 1000000 in
theorem nextTar50_g {ea : Addr} {d : List UInt8} (R : Rdr ea d) (hdl : d.length ≤ 1099511627776) (n left pad : Nat) (s : R.St n) (hl : left ≤ 30000) (hp : pad ≤ 30000) (e : TE) (hfl : e.flag = 50) (he : e.name.length ≤ 100 ∧ e.link.length ≤ 100 ∧ e.data.length ≤ 100000 ∧ e.mode ≤ 100000) (hd : n + left + pad + 512 ≤ d.length) (hhd : (d.drop (n + left + pad)).take 512 = tarHead e) (bt : Nat) (g : World) (Fr : HL) : Gives Tryz.prog 45 #[pt bt 0] g ((bt, oC [.iface R.t R.v, .int .i64 (pad : Int), .iface R.t R.v, .int .i64 (left : Int), .nilIface] 182) :: (R.heap n s ++ (eofB ea :: Fr))) ((_ : Nat) × Int × R.St (n + left + pad + 512)) (fun q => .tuple #[pt q.1 0, .nilIface])
    (fun q => (q.1, oC (hdrL e q.2.1) 124) :: (bt, oC [.iface R.t R.v, .int .i64 ((padLen 0 : Nat) : Int), .iface R.t R.v, .int .i64 ((0 : Nat) : Int), .nilIface] 182) :: (R.heap (n + left + pad + 512) q.2.2 ++ (eofB ea :: Fr))) := by
  refine Gives.enter Tryz.func45 rfl Tryz.ntmps45 rfl ?_
  refine TC.seq ?_
  refine TC.region ?_
  refine TL.val (Yl.assign rfl) rfl ?_
  refine TL.val (Yl.assign rfl) rfl ?_
  refine TL.next ?_
  refine TC.seq ?_
  refine TC.region ?_
  refine TL.val (Yl.assign rfl) rfl ?_
  refine TL.next ?_
  refine TC.seq ?_
  refine TC.region ?_
  refine TL.val (Yl.assign rfl) rfl ?_
  refine TL.val (Yl.assign rfl) rfl ?_
  refine TL.next ?_
  refine TC.seq ?_
  refine TC.region ?_
  refine TL.val (Yl.assign rfl) rfl ?_
  refine TL.next ?_
  refine TC.block ?_
  refine TC.loopI (σ := Unit) (fun u => [(0, pt bt 0), (4, .map none), (5, vS []), (6, vS []), (7, .int .i64 7)]) (fun u => (bt, oC [.iface R.t R.v, .int .i64 (pad : Int), .iface R.t R.v, .int .i64 (left : Int), .nilIface] 182) :: (R.heap n s ++ (eofB ea :: Fr))) (fun u => True) (fun u => 0) () ⟨rfl, rfl, rfl, rfl, rfl, trivial⟩ (fun _ h => h) trivial (fun u hu => ?_)
  refine TC.block ?_
  refine TC.seq ?_
  refine TC.seq ?_
  refine TC.region ?_
  refine TL.val (Yl.move rfl) rfl ?_
  refine TL.call (Cll.func (xs := [_]) (vs := [_]) Tryz.func52 rfl (by kernel_rfl) ⟨rfl, trivial⟩) rfl (skip_g R hdl n left pad s (by omega) hl hp bt g Fr) fun q => ?_
  refine TL.val (Yl.assign rfl) rfl ?_
  refine TL.next ?_
  refine TC.seq ?_
  refine TC.region ?_
  refine TL.val (Yl.move rfl) rfl ?_
  refine TL.val (Yl.neqNilN Tryz.underlying58 rfl rfl) rfl ?_
  refine TL.next ?_
  refine TC.no rfl ?_
  refine TC.skip_next ?_
  refine TC.seq ?_
  refine TC.region ?_
  refine TL.val (Yl.move rfl) rfl ?_
  refine TL.call (Cll.func (xs := [_]) (vs := [_]) Tryz.func53 rfl (by kernel_rfl) ⟨rfl, trivial⟩) rfl (tarHeader_g R (n + left + pad) q e he hd hdl hhd 0 left bt g Fr) fun r => ?_
  obtain ⟨bh, ⟨f, s3⟩, hf⟩ := r
  dsimp only at hf ⊢
  refine TL.val (Yl.move rfl) rfl ?_
  refine TL.val (Yl.extract rfl rfl) rfl ?_
  refine TL.val (Yl.extract rfl rfl) rfl ?_
  refine TL.val (Yl.assign rfl) rfl ?_
  refine TL.val (Yl.assign rfl) rfl ?_
  refine TL.next ?_
  refine TC.seq ?_
  refine TC.seq ?_
  refine TC.region ?_
  refine TL.val (Yl.move rfl) rfl ?_
  refine TL.val (Yl.neqNilN Tryz.underlying58 rfl rfl) rfl ?_
  refine TL.next ?_
  refine TC.no rfl ?_
  refine TC.skip_next ?_
  refine TC.seq ?_
  refine TC.seq ?_
  refine TC.region ?_
  refine TL.val (Yl.move rfl) rfl ?_
  refine TL.val (Yl.move rfl) rfl ?_
  refine TL.call (Cll.func (xs := [_, _]) (vs := [_, _]) Tryz.func54 rfl (by kernel_rfl) ⟨rfl, rfl, trivial⟩) rfl (Gives.of (fun _ h => Pulls.own (.cons (by repeat (first | exact Pull.head | apply Pull.tail | apply Pull.right)) (.cons (by repeat (first | exact Pull.head | apply Pull.tail | apply Pull.right)) .nil)) _ h) (data50_g R e.data.length (by omega) _ _ (hdrL e f) rfl (by rw [hdrL, hfl]; rfl) bt bh g _)) fun _ => ?_
  refine TL.val (Yl.assign rfl) rfl ?_
  refine TL.next ?_
  refine TC.seq ?_
  refine TC.region ?_
  refine TL.val (Yl.move rfl) rfl ?_
  refine TL.val (Yl.neqNilN Tryz.underlying58 rfl rfl) rfl ?_
  refine TL.next ?_
  refine TC.no rfl ?_
  refine TC.skip_next ?_
  refine TC.seq ?_
  by_cases hf0 : f = 0
  · subst hf0
    refine TC.region ?_
    refine TL.val (Yl.move rfl) rfl ?_
    refine TL.val (Yl.move rfl) rfl ?_
    refine TL.val (Yl.nilCheckP rfl) rfl ?_
    refine TL.val (Yl.fieldAddr (k := 122) (m := 21) Tryz.underlying124 rfl sz122 rfl rfl) rfl ?_
    refine TL.val (Yl.load1 (v := .int .i64 0) Tryz.underlying122 rfl rfl (by repeat (first | exact Foc.head | apply Foc.tail | apply Foc.right)) rfl) rfl ?_
    refine TL.val (Yl.mask 0 rfl rfl rfl rfl) rfl ?_
    refine TL.val (Yl.assign rfl) rfl ?_
    refine TL.next ?_
    refine TC.seq ?_
    refine TC.seq ?_
    refine TC.region ?_
    refine TL.val (Yl.move rfl) rfl ?_
    refine TL.val (Yl.nilCheckP rfl) rfl ?_
    refine TL.val (Yl.fieldAddr (k := 5) (m := 0) Tryz.underlying124 rfl sz5 rfl rfl) rfl ?_
    refine TL.val (Yl.load1 (v := .int .u8 50) Tryz.underlying5 rfl rfl (by repeat (first | exact Foc.head | apply Foc.tail | apply Foc.right)) (by rw [hdrL, hfl]; rfl)) rfl ?_
    refine TL.next ?_
    refine TC.block ?_
    refine TC.seq ?_
    refine TC.seq ?_
    refine TC.region ?_
    refine TL.val (Yl.eql (b := false) rfl rfl rfl) rfl ?_
    refine TL.val (Yl.assign rfl) rfl ?_
    refine TL.next ?_
    refine TC.no rfl ?_
    refine TC.region ?_
    refine TL.val (Yl.eql (b := false) rfl rfl rfl) rfl ?_
    refine TL.val (Yl.assign rfl) rfl ?_
    refine TL.next ?_
    refine TC.no rfl ?_
    refine TC.seq ?_
    refine TC.seq ?_
    refine TC.region ?_
    refine TL.val (Yl.eql (b := false) rfl rfl rfl) rfl ?_
    refine TL.val (Yl.assign rfl) rfl ?_
    refine TL.next ?_
    refine TC.no rfl ?_
    refine TC.region ?_
    refine TL.val (Yl.eql (b := false) rfl rfl rfl) rfl ?_
    refine TL.val (Yl.assign rfl) rfl ?_
    refine TL.next ?_
    refine TC.no rfl ?_
    refine TC.seq ?_
    refine TC.region ?_
    refine TL.val (Yl.eql (b := false) rfl rfl rfl) rfl ?_
    refine TL.val (Yl.assign rfl) rfl ?_
    refine TL.next ?_
    refine TC.no rfl ?_
    refine TC.skip_next ?_
    refine TC.seq ?_
    refine TC.seq ?_
    refine TC.region ?_
    refine TL.val (Yl.move rfl) rfl ?_
    refine TL.val (Yl.move rfl) rfl ?_
    refine TL.call (Cll.func (xs := [_, _]) (vs := [_, _]) Tryz.func57 rfl (by kernel_rfl) ⟨rfl, rfl, trivial⟩) rfl (Gives.of (fun _ h => Pulls.own (.cons (by repeat (first | exact Pull.head | apply Pull.tail | apply Pull.right)) .nil) _ h) (merge_g e 0 bh g _)) fun _ => ?_
    refine TL.val (Yl.assign rfl) rfl ?_
    refine TL.next ?_
    refine TC.seq ?_
    refine TC.region ?_
    refine TL.val (Yl.move rfl) rfl ?_
    refine TL.val (Yl.neqNilN Tryz.underlying58 rfl rfl) rfl ?_
    refine TL.next ?_
    refine TC.no rfl ?_
    refine TC.skip_next ?_
    refine TC.seq ?_
    refine TC.seq ?_
    refine TC.region ?_
    refine TL.val (Yl.move rfl) rfl ?_
    refine TL.val (Yl.neqS (r := false) rfl rfl rfl) rfl ?_
    refine TL.next ?_
    refine TC.no rfl ?_
    refine TC.skip_next ?_
    refine TC.seq ?_
    refine TC.seq ?_
    refine TC.region ?_
    refine TL.val (Yl.move rfl) rfl ?_
    refine TL.val (Yl.neqS (r := false) rfl rfl rfl) rfl ?_
    refine TL.next ?_
    refine TC.no rfl ?_
    refine TC.skip_next ?_
    refine TC.seq ?_
    refine TC.seq ?_
    refine TC.region ?_
    refine TL.val (Yl.move rfl) rfl ?_
    refine TL.val (Yl.nilCheckP rfl) rfl ?_
    refine TL.val (Yl.fieldAddr (k := 5) (m := 0) Tryz.underlying124 rfl sz5 rfl rfl) rfl ?_
    refine TL.val (Yl.load1 (v := .int .u8 50) Tryz.underlying5 rfl rfl (by repeat (first | exact Foc.head | apply Foc.tail | apply Foc.right)) (by rw [hdrL, hfl]; rfl)) rfl ?_
    refine TL.val (Yl.eql (b := false) rfl rfl rfl) rfl ?_
    refine TL.next ?_
    refine TC.no rfl ?_
    refine TC.skip_next ?_
    refine TC.seq ?_
    refine TC.seq ?_
    refine TC.region ?_
    refine TL.val (Yl.move rfl) rfl ?_
    refine TL.val (Yl.move rfl) rfl ?_
    refine TL.call (Cll.func (xs := [_, _]) (vs := [_, _]) Tryz.func54 rfl (by kernel_rfl) ⟨rfl, rfl, trivial⟩) rfl (Gives.of (fun _ h => Pulls.own (.cons (by repeat (first | exact Pull.head | apply Pull.tail | apply Pull.right)) (.cons (by repeat (first | exact Pull.head | apply Pull.tail | apply Pull.right)) .nil)) _ h) (data50_g R e.data.length (by omega) _ _ (hdrL e 0) rfl (by rw [hdrL, hfl]; rfl) bt bh g _)) fun _ => ?_
    refine TL.val (Yl.assign rfl) rfl ?_
    refine TL.next ?_
    refine TC.seq ?_
    refine TC.region ?_
    refine TL.val (Yl.move rfl) rfl ?_
    refine TL.val (Yl.neqNilN Tryz.underlying58 rfl rfl) rfl ?_
    refine TL.next ?_
    refine TC.no rfl ?_
    refine TC.skip_next ?_
    refine TC.seq ?_
    refine TC.seq ?_
    refine TC.region ?_
    refine TL.val (Yl.move rfl) rfl ?_
    refine TL.val (Yl.mask 1 rfl rfl rfl rfl) rfl ?_
    refine TL.val (Yl.neq (b := false) rfl rfl rfl) rfl ?_
    refine TL.val (Yl.move rfl) rfl ?_
    refine TL.no rfl rfl rfl rfl rfl ?_
    refine TL.no rfl rfl rfl rfl rfl ?_
    refine TL.no rfl rfl rfl rfl rfl ?_
    refine TL.val (Yl.pickF rfl rfl) rfl ?_
    refine TL.next ?_
    refine TC.no rfl ?_
    refine TC.skip_next ?_
    refine TC.seq ?_
    refine TC.region ?_
    refine TL.val (Yl.move rfl) rfl ?_
    refine TL.val (Yl.move rfl) rfl ?_
    refine TL.val (Yl.nilCheckP rfl) rfl ?_
    refine TL.val (Yl.fieldAddr (k := 122) (m := 21) Tryz.underlying124 rfl sz122 rfl rfl) rfl ?_
    refine TL.skp (Skp.store1 (v := .int .i64 0) (cs' := hdrL e 0) sz122 rfl rfl rfl (by repeat (first | exact Foc.head | apply Foc.tail | apply Foc.right)) (Nat.le_of_ble_eq_true rfl) rfl) ?_
    refine TL.next ?_
    refine TC.seq ?_
    refine TC.region ?_
    refine TL.val (Yl.move rfl) rfl ?_
    refine TL.val (Yl.assign rfl) rfl ?_
    refine TL.val (Yl.assign rfl) rfl ?_
    refine TL.next ?_
    exact TC.back2 ⟨bh, 0, s3⟩ rfl rfl rfl rfl (fun _ h => Pulls.own (.cons (by repeat (first | exact Pull.head | apply Pull.tail | apply Pull.right)) (.cons (by repeat (first | exact Pull.head | apply Pull.tail | apply Pull.right)) .nil)) _ h)
  · replace hf0 : f = 3 := by rcases hf with h | h
                              · exact absurd h hf0
                              · exact h
    subst hf0
    refine TC.region ?_
    refine TL.val (Yl.move rfl) rfl ?_
    refine TL.val (Yl.move rfl) rfl ?_
    refine TL.val (Yl.nilCheckP rfl) rfl ?_
    refine TL.val (Yl.fieldAddr (k := 122) (m := 21) Tryz.underlying124 rfl sz122 rfl rfl) rfl ?_
    refine TL.val (Yl.load1 (v := .int .i64 3) Tryz.underlying122 rfl rfl (by repeat (first | exact Foc.head | apply Foc.tail | apply Foc.right)) rfl) rfl ?_
    refine TL.val (Yl.mask 2 rfl rfl rfl rfl) rfl ?_
    refine TL.val (Yl.assign rfl) rfl ?_
    refine TL.next ?_
    refine TC.seq ?_
    refine TC.seq ?_
    refine TC.region ?_
    refine TL.val (Yl.move rfl) rfl ?_
    refine TL.val (Yl.nilCheckP rfl) rfl ?_
    refine TL.val (Yl.fieldAddr (k := 5) (m := 0) Tryz.underlying124 rfl sz5 rfl rfl) rfl ?_
    refine TL.val (Yl.load1 (v := .int .u8 50) Tryz.underlying5 rfl rfl (by repeat (first | exact Foc.head | apply Foc.tail | apply Foc.right)) (by rw [hdrL, hfl]; rfl)) rfl ?_
    refine TL.next ?_
    refine TC.block ?_
    refine TC.seq ?_
    refine TC.seq ?_
    refine TC.region ?_
    refine TL.val (Yl.eql (b := false) rfl rfl rfl) rfl ?_
    refine TL.val (Yl.assign rfl) rfl ?_
    refine TL.next ?_
    refine TC.no rfl ?_
    refine TC.region ?_
    refine TL.val (Yl.eql (b := false) rfl rfl rfl) rfl ?_
    refine TL.val (Yl.assign rfl) rfl ?_
    refine TL.next ?_
    refine TC.no rfl ?_
    refine TC.seq ?_
    refine TC.seq ?_
    refine TC.region ?_
    refine TL.val (Yl.eql (b := false) rfl rfl rfl) rfl ?_
    refine TL.val (Yl.assign rfl) rfl ?_
    refine TL.next ?_
    refine TC.no rfl ?_
    refine TC.region ?_
    refine TL.val (Yl.eql (b := false) rfl rfl rfl) rfl ?_
    refine TL.val (Yl.assign rfl) rfl ?_
    refine TL.next ?_
    refine TC.no rfl ?_
    refine TC.seq ?_
    refine TC.region ?_
    refine TL.val (Yl.eql (b := false) rfl rfl rfl) rfl ?_
    refine TL.val (Yl.assign rfl) rfl ?_
    refine TL.next ?_
    refine TC.no rfl ?_
    refine TC.skip_next ?_
    refine TC.seq ?_
    refine TC.seq ?_
    refine TC.region ?_
    refine TL.val (Yl.move rfl) rfl ?_
    refine TL.val (Yl.move rfl) rfl ?_
    refine TL.call (Cll.func (xs := [_, _]) (vs := [_, _]) Tryz.func57 rfl (by kernel_rfl) ⟨rfl, rfl, trivial⟩) rfl (Gives.of (fun _ h => Pulls.own (.cons (by repeat (first | exact Pull.head | apply Pull.tail | apply Pull.right)) .nil) _ h) (merge_g e 3 bh g _)) fun _ => ?_
    refine TL.val (Yl.assign rfl) rfl ?_
    refine TL.next ?_
    refine TC.seq ?_
    refine TC.region ?_
    refine TL.val (Yl.move rfl) rfl ?_
    refine TL.val (Yl.neqNilN Tryz.underlying58 rfl rfl) rfl ?_
    refine TL.next ?_
    refine TC.no rfl ?_
    refine TC.skip_next ?_
    refine TC.seq ?_
    refine TC.seq ?_
    refine TC.region ?_
    refine TL.val (Yl.move rfl) rfl ?_
    refine TL.val (Yl.neqS (r := false) rfl rfl rfl) rfl ?_
    refine TL.next ?_
    refine TC.no rfl ?_
    refine TC.skip_next ?_
    refine TC.seq ?_
    refine TC.seq ?_
    refine TC.region ?_
    refine TL.val (Yl.move rfl) rfl ?_
    refine TL.val (Yl.neqS (r := false) rfl rfl rfl) rfl ?_
    refine TL.next ?_
    refine TC.no rfl ?_
    refine TC.skip_next ?_
    refine TC.seq ?_
    refine TC.seq ?_
    refine TC.region ?_
    refine TL.val (Yl.move rfl) rfl ?_
    refine TL.val (Yl.nilCheckP rfl) rfl ?_
    refine TL.val (Yl.fieldAddr (k := 5) (m := 0) Tryz.underlying124 rfl sz5 rfl rfl) rfl ?_
    refine TL.val (Yl.load1 (v := .int .u8 50) Tryz.underlying5 rfl rfl (by repeat (first | exact Foc.head | apply Foc.tail | apply Foc.right)) (by rw [hdrL, hfl]; rfl)) rfl ?_
    refine TL.val (Yl.eql (b := false) rfl rfl rfl) rfl ?_
    refine TL.next ?_
    refine TC.no rfl ?_
    refine TC.skip_next ?_
    refine TC.seq ?_
    refine TC.seq ?_
    refine TC.region ?_
    refine TL.val (Yl.move rfl) rfl ?_
    refine TL.val (Yl.move rfl) rfl ?_
    refine TL.call (Cll.func (xs := [_, _]) (vs := [_, _]) Tryz.func54 rfl (by kernel_rfl) ⟨rfl, rfl, trivial⟩) rfl (Gives.of (fun _ h => Pulls.own (.cons (by repeat (first | exact Pull.head | apply Pull.tail | apply Pull.right)) (.cons (by repeat (first | exact Pull.head | apply Pull.tail | apply Pull.right)) .nil)) _ h) (data50_g R e.data.length (by omega) _ _ (hdrL e 3) rfl (by rw [hdrL, hfl]; rfl) bt bh g _)) fun _ => ?_
    refine TL.val (Yl.assign rfl) rfl ?_
    refine TL.next ?_
    refine TC.seq ?_
    refine TC.region ?_
    refine TL.val (Yl.move rfl) rfl ?_
    refine TL.val (Yl.neqNilN Tryz.underlying58 rfl rfl) rfl ?_
    refine TL.next ?_
    refine TC.no rfl ?_
    refine TC.skip_next ?_
    refine TC.seq ?_
    refine TC.seq ?_
    refine TC.region ?_
    refine TL.val (Yl.move rfl) rfl ?_
    refine TL.val (Yl.mask 1 rfl rfl rfl rfl) rfl ?_
    refine TL.val (Yl.neq (b := true) rfl rfl rfl) rfl ?_
    refine TL.val (Yl.move rfl) rfl ?_
    refine TL.yes rfl rfl rfl ?_
    refine TL.val (Yl.move rfl) rfl ?_
    refine TL.yes rfl rfl rfl ?_
    refine TL.val (Yl.and3 rfl rfl) rfl ?_
    refine TL.yes rfl rfl rfl ?_
    refine TL.val (Yl.neq (b := true) rfl rfl rfl) rfl ?_
    refine TL.val (Yl.pickT rfl rfl) rfl ?_
    refine TL.next ?_
    refine TC.yes rfl ?_
    refine TC.region ?_
    refine TL.val (Yl.assign rfl) rfl ?_
    refine TL.next ?_
    refine TC.seq ?_
    refine TC.region ?_
    refine TL.val (Yl.move rfl) rfl ?_
    refine TL.val (Yl.move rfl) rfl ?_
    refine TL.val (Yl.nilCheckP rfl) rfl ?_
    refine TL.val (Yl.fieldAddr (k := 122) (m := 21) Tryz.underlying124 rfl sz122 rfl rfl) rfl ?_
    refine TL.skp (Skp.store1 (v := .int .i64 1) (cs' := hdrL e 1) sz122 rfl rfl rfl (by repeat (first | exact Foc.head | apply Foc.tail | apply Foc.right)) (Nat.le_of_ble_eq_true rfl) rfl) ?_
    refine TL.next ?_
    refine TC.seq ?_
    refine TC.region ?_
    refine TL.val (Yl.move rfl) rfl ?_
    refine TL.val (Yl.assign rfl) rfl ?_
    refine TL.val (Yl.assign rfl) rfl ?_
    refine TL.next ?_
    exact TC.back2 ⟨bh, 1, s3⟩ rfl rfl rfl rfl (fun _ h => Pulls.own (.cons (by repeat (first | exact Pull.head | apply Pull.tail | apply Pull.right)) (.cons (by repeat (first | exact Pull.head | apply Pull.tail | apply Pull.right)) .nil)) _ h)
set_option maxHeartbeats 1000000 in
theorem nextTar53_g {ea : Addr} {d : List UInt8} (R : Rdr ea d) (hdl : d.length ≤ 1099511627776) (n left pad : Nat) (s : R.St n) (hl : left ≤ 30000) (hp : pad ≤ 30000) (e : TE) (hfl : e.flag = 53) (he : e.name.length ≤ 100 ∧ e.link.length ≤ 100 ∧ e.data.length ≤ 100000 ∧ e.mode ≤ 100000) (hd : n + left + pad + 512 ≤ d.length) (hhd : (d.drop (n + left + pad)).take 512 = tarHead e) (bt : Nat) (g : World) (Fr : HL) : Gives Tryz.prog 45 #[pt bt 0] g ((bt, oC [.iface R.t R.v, .int .i64 (pad : Int), .iface R.t R.v, .int .i64 (left : Int), .nilIface] 182) :: (R.heap n s ++ (eofB ea :: Fr))) ((_ : Nat) × Int × R.St (n + left + pad + 512)) (fun q => .tuple #[pt q.1 0, .nilIface])
    (fun q => (q.1, oC (hdrL e q.2.1) 124) :: (bt, oC [.iface R.t R.v, .int .i64 ((padLen 0 : Nat) : Int), .iface R.t R.v, .int .i64 ((0 : Nat) : Int), .nilIface] 182) :: (R.heap (n + left + pad + 512) q.2.2 ++ (eofB ea :: Fr))) := by
  refine Gives.enter Tryz.func45 rfl Tryz.ntmps45 rfl ?_
  refine TC.seq ?_
  refine TC.region ?_
  refine TL.val (Yl.assign rfl) rfl ?_
  refine TL.val (Yl.assign rfl) rfl ?_
  refine TL.next ?_
  refine TC.seq ?_
  refine TC.region ?_
  refine TL.val (Yl.assign rfl) rfl ?_
  refine TL.next ?_
  refine TC.seq ?_
  refine TC.region ?_
  refine TL.val (Yl.assign rfl) rfl ?_
  refine TL.val (Yl.assign rfl) rfl ?_
  refine TL.next ?_
  refine TC.seq ?_
  refine TC.region ?_
  refine TL.val (Yl.assign rfl) rfl ?_
  refine TL.next ?_
  refine TC.block ?_
  refine TC.loopI (σ := Unit) (fun u => [(0, pt bt 0), (4, .map none), (5, vS []), (6, vS []), (7, .int .i64 7)]) (fun u => (bt, oC [.iface R.t R.v, .int .i64 (pad : Int), .iface R.t R.v, .int .i64 (left : Int), .nilIface] 182) :: (R.heap n s ++ (eofB ea :: Fr))) (fun u => True) (fun u => 0) () ⟨rfl, rfl, rfl, rfl, rfl, trivial⟩ (fun _ h => h) trivial (fun u hu => ?_)
  refine TC.block ?_
  refine TC.seq ?_
  refine TC.seq ?_
  refine TC.region ?_
  refine TL.val (Yl.move rfl) rfl ?_
  refine TL.call (Cll.func (xs := [_]) (vs := [_]) Tryz.func52 rfl (by kernel_rfl) ⟨rfl, trivial⟩) rfl (skip_g R hdl n left pad s (by omega) hl hp bt g Fr) fun q => ?_
  refine TL.val (Yl.assign rfl) rfl ?_
  refine TL.next ?_
  refine TC.seq ?_
  refine TC.region ?_
  refine TL.val (Yl.move rfl) rfl ?_
  refine TL.val (Yl.neqNilN Tryz.underlying58 rfl rfl) rfl ?_
  refine TL.next ?_
  refine TC.no rfl ?_
  refine TC.skip_next ?_
  refine TC.seq ?_
  refine TC.region ?_
  refine TL.val (Yl.move rfl) rfl ?_
  refine TL.call (Cll.func (xs := [_]) (vs := [_]) Tryz.func53 rfl (by kernel_rfl) ⟨rfl, trivial⟩) rfl (tarHeader_g R (n + left + pad) q e he hd hdl hhd 0 left bt g Fr) fun r => ?_
  obtain ⟨bh, ⟨f, s3⟩, hf⟩ := r
  dsimp only at hf ⊢
  refine TL.val (Yl.move rfl) rfl ?_
  refine TL.val (Yl.extract rfl rfl) rfl ?_
  refine TL.val (Yl.extract rfl rfl) rfl ?_
  refine TL.val (Yl.assign rfl) rfl ?_
  refine TL.val (Yl.assign rfl) rfl ?_
  refine TL.next ?_
  refine TC.seq ?_
  refine TC.seq ?_
  refine TC.region ?_
  refine TL.val (Yl.move rfl) rfl ?_
  refine TL.val (Yl.neqNilN Tryz.underlying58 rfl rfl) rfl ?_
  refine TL.next ?_
  refine TC.no rfl ?_
  refine TC.skip_next ?_
  refine TC.seq ?_
  refine TC.seq ?_
  refine TC.region ?_
  refine TL.val (Yl.move rfl) rfl ?_
  refine TL.val (Yl.move rfl) rfl ?_
  refine TL.call (Cll.func (xs := [_, _]) (vs := [_, _]) Tryz.func54 rfl (by kernel_rfl) ⟨rfl, rfl, trivial⟩) rfl (Gives.of (fun _ h => Pulls.own (.cons (by repeat (first | exact Pull.head | apply Pull.tail | apply Pull.right)) (.cons (by repeat (first | exact Pull.head | apply Pull.tail | apply Pull.right)) .nil)) _ h) (data53_g R e.data.length (by omega) _ _ (hdrL e f) rfl (by rw [hdrL, hfl]; rfl) bt bh g _)) fun _ => ?_
  refine TL.val (Yl.assign rfl) rfl ?_
  refine TL.next ?_
  refine TC.seq ?_
  refine TC.region ?_
  refine TL.val (Yl.move rfl) rfl ?_
  refine TL.val (Yl.neqNilN Tryz.underlying58 rfl rfl) rfl ?_
  refine TL.next ?_
  refine TC.no rfl ?_
  refine TC.skip_next ?_
  refine TC.seq ?_
  by_cases hf0 : f = 0
  · subst hf0
    refine TC.region ?_
    refine TL.val (Yl.move rfl) rfl ?_
    refine TL.val (Yl.move rfl) rfl ?_
    refine TL.val (Yl.nilCheckP rfl) rfl ?_
    refine TL.val (Yl.fieldAddr (k := 122) (m := 21) Tryz.underlying124 rfl sz122 rfl rfl) rfl ?_
    refine TL.val (Yl.load1 (v := .int .i64 0) Tryz.underlying122 rfl rfl (by repeat (first | exact Foc.head | apply Foc.tail | apply Foc.right)) rfl) rfl ?_
    refine TL.val (Yl.mask 0 rfl rfl rfl rfl) rfl ?_
    refine TL.val (Yl.assign rfl) rfl ?_
    refine TL.next ?_
    refine TC.seq ?_
    refine TC.seq ?_
    refine TC.region ?_
    refine TL.val (Yl.move rfl) rfl ?_
    refine TL.val (Yl.nilCheckP rfl) rfl ?_
    refine TL.val (Yl.fieldAddr (k := 5) (m := 0) Tryz.underlying124 rfl sz5 rfl rfl) rfl ?_
    refine TL.val (Yl.load1 (v := .int .u8 53) Tryz.underlying5 rfl rfl (by repeat (first | exact Foc.head | apply Foc.tail | apply Foc.right)) (by rw [hdrL, hfl]; rfl)) rfl ?_
    refine TL.next ?_
    refine TC.block ?_
    refine TC.seq ?_
    refine TC.seq ?_
    refine TC.region ?_
    refine TL.val (Yl.eql (b := false) rfl rfl rfl) rfl ?_
    refine TL.val (Yl.assign rfl) rfl ?_
    refine TL.next ?_
    refine TC.no rfl ?_
    refine TC.region ?_
    refine TL.val (Yl.eql (b := false) rfl rfl rfl) rfl ?_
    refine TL.val (Yl.assign rfl) rfl ?_
    refine TL.next ?_
    refine TC.no rfl ?_
    refine TC.seq ?_
    refine TC.seq ?_
    refine TC.region ?_
    refine TL.val (Yl.eql (b := false) rfl rfl rfl) rfl ?_
    refine TL.val (Yl.assign rfl) rfl ?_
    refine TL.next ?_
    refine TC.no rfl ?_
    refine TC.region ?_
    refine TL.val (Yl.eql (b := false) rfl rfl rfl) rfl ?_
    refine TL.val (Yl.assign rfl) rfl ?_
    refine TL.next ?_
    refine TC.no rfl ?_
    refine TC.seq ?_
    refine TC.region ?_
    refine TL.val (Yl.eql (b := false) rfl rfl rfl) rfl ?_
    refine TL.val (Yl.assign rfl) rfl ?_
    refine TL.next ?_
    refine TC.no rfl ?_
    refine TC.skip_next ?_
    refine TC.seq ?_
    refine TC.seq ?_
    refine TC.region ?_
    refine TL.val (Yl.move rfl) rfl ?_
    refine TL.val (Yl.move rfl) rfl ?_
    refine TL.call (Cll.func (xs := [_, _]) (vs := [_, _]) Tryz.func57 rfl (by kernel_rfl) ⟨rfl, rfl, trivial⟩) rfl (Gives.of (fun _ h => Pulls.own (.cons (by repeat (first | exact Pull.head | apply Pull.tail | apply Pull.right)) .nil) _ h) (merge_g e 0 bh g _)) fun _ => ?_
    refine TL.val (Yl.assign rfl) rfl ?_
    refine TL.next ?_
    refine TC.seq ?_
    refine TC.region ?_
    refine TL.val (Yl.move rfl) rfl ?_
    refine TL.val (Yl.neqNilN Tryz.underlying58 rfl rfl) rfl ?_
    refine TL.next ?_
    refine TC.no rfl ?_
    refine TC.skip_next ?_
    refine TC.seq ?_
    refine TC.seq ?_
    refine TC.region ?_
    refine TL.val (Yl.move rfl) rfl ?_
    refine TL.val (Yl.neqS (r := false) rfl rfl rfl) rfl ?_
    refine TL.next ?_
    refine TC.no rfl ?_
    refine TC.skip_next ?_
    refine TC.seq ?_
    refine TC.seq ?_
    refine TC.region ?_
    refine TL.val (Yl.move rfl) rfl ?_
    refine TL.val (Yl.neqS (r := false) rfl rfl rfl) rfl ?_
    refine TL.next ?_
    refine TC.no rfl ?_
    refine TC.skip_next ?_
    refine TC.seq ?_
    refine TC.seq ?_
    refine TC.region ?_
    refine TL.val (Yl.move rfl) rfl ?_
    refine TL.val (Yl.nilCheckP rfl) rfl ?_
    refine TL.val (Yl.fieldAddr (k := 5) (m := 0) Tryz.underlying124 rfl sz5 rfl rfl) rfl ?_
    refine TL.val (Yl.load1 (v := .int .u8 53) Tryz.underlying5 rfl rfl (by repeat (first | exact Foc.head | apply Foc.tail | apply Foc.right)) (by rw [hdrL, hfl]; rfl)) rfl ?_
    refine TL.val (Yl.eql (b := false) rfl rfl rfl) rfl ?_
    refine TL.next ?_
    refine TC.no rfl ?_
    refine TC.skip_next ?_
    refine TC.seq ?_
    refine TC.seq ?_
    refine TC.region ?_
    refine TL.val (Yl.move rfl) rfl ?_
    refine TL.val (Yl.move rfl) rfl ?_
    refine TL.call (Cll.func (xs := [_, _]) (vs := [_, _]) Tryz.func54 rfl (by kernel_rfl) ⟨rfl, rfl, trivial⟩) rfl (Gives.of (fun _ h => Pulls.own (.cons (by repeat (first | exact Pull.head | apply Pull.tail | apply Pull.right)) (.cons (by repeat (first | exact Pull.head | apply Pull.tail | apply Pull.right)) .nil)) _ h) (data53_g R e.data.length (by omega) _ _ (hdrL e 0) rfl (by rw [hdrL, hfl]; rfl) bt bh g _)) fun _ => ?_
    refine TL.val (Yl.assign rfl) rfl ?_
    refine TL.next ?_
    refine TC.seq ?_
    refine TC.region ?_
    refine TL.val (Yl.move rfl) rfl ?_
    refine TL.val (Yl.neqNilN Tryz.underlying58 rfl rfl) rfl ?_
    refine TL.next ?_
    refine TC.no rfl ?_
    refine TC.skip_next ?_
    refine TC.seq ?_
    refine TC.seq ?_
    refine TC.region ?_
    refine TL.val (Yl.move rfl) rfl ?_
    refine TL.val (Yl.mask 1 rfl rfl rfl rfl) rfl ?_
    refine TL.val (Yl.neq (b := false) rfl rfl rfl) rfl ?_
    refine TL.val (Yl.move rfl) rfl ?_
    refine TL.no rfl rfl rfl rfl rfl ?_
    refine TL.no rfl rfl rfl rfl rfl ?_
    refine TL.no rfl rfl rfl rfl rfl ?_
    refine TL.val (Yl.pickF rfl rfl) rfl ?_
    refine TL.next ?_
    refine TC.no rfl ?_
    refine TC.skip_next ?_
    refine TC.seq ?_
    refine TC.region ?_
    refine TL.val (Yl.move rfl) rfl ?_
    refine TL.val (Yl.move rfl) rfl ?_
    refine TL.val (Yl.nilCheckP rfl) rfl ?_
    refine TL.val (Yl.fieldAddr (k := 122) (m := 21) Tryz.underlying124 rfl sz122 rfl rfl) rfl ?_
    refine TL.skp (Skp.store1 (v := .int .i64 0) (cs' := hdrL e 0) sz122 rfl rfl rfl (by repeat (first | exact Foc.head | apply Foc.tail | apply Foc.right)) (Nat.le_of_ble_eq_true rfl) rfl) ?_
    refine TL.next ?_
    refine TC.seq ?_
    refine TC.region ?_
    refine TL.val (Yl.move rfl) rfl ?_
    refine TL.val (Yl.assign rfl) rfl ?_
    refine TL.val (Yl.assign rfl) rfl ?_
    refine TL.next ?_
    exact TC.back2 ⟨bh, 0, s3⟩ rfl rfl rfl rfl (fun _ h => Pulls.own (.cons (by repeat (first | exact Pull.head | apply Pull.tail | apply Pull.right)) (.cons (by repeat (first | exact Pull.head | apply Pull.tail | apply Pull.right)) .nil)) _ h)
  · replace hf0 : f = 3 := by rcases hf with h | h
                              · exact absurd h hf0
                              · exact h
    subst hf0
    refine TC.region ?_
    refine TL.val (Yl.move rfl) rfl ?_
    refine TL.val (Yl.move rfl) rfl ?_
    refine TL.val (Yl.nilCheckP rfl) rfl ?_
    refine TL.val (Yl.fieldAddr (k := 122) (m := 21) Tryz.underlying124 rfl sz122 rfl rfl) rfl ?_
    refine TL.val (Yl.load1 (v := .int .i64 3) Tryz.underlying122 rfl rfl (by repeat (first | exact Foc.head | apply Foc.tail | apply Foc.right)) rfl) rfl ?_
    refine TL.val (Yl.mask 2 rfl rfl rfl rfl) rfl ?_
    refine TL.val (Yl.assign rfl) rfl ?_
    refine TL.next ?_
    refine TC.seq ?_
    refine TC.seq ?_
    refine TC.region ?_
    refine TL.val (Yl.move rfl) rfl ?_
    refine TL.val (Yl.nilCheckP rfl) rfl ?_
    refine TL.val (Yl.fieldAddr (k := 5) (m := 0) Tryz.underlying124 rfl sz5 rfl rfl) rfl ?_
    refine TL.val (Yl.load1 (v := .int .u8 53) Tryz.underlying5 rfl rfl (by repeat (first | exact Foc.head | apply Foc.tail | apply Foc.right)) (by rw [hdrL, hfl]; rfl)) rfl ?_
    refine TL.next ?_
    refine TC.block ?_
    refine TC.seq ?_
    refine TC.seq ?_
    refine TC.region ?_
    refine TL.val (Yl.eql (b := false) rfl rfl rfl) rfl ?_
    refine TL.val (Yl.assign rfl) rfl ?_
    refine TL.next ?_
    refine TC.no rfl ?_
    refine TC.region ?_
    refine TL.val (Yl.eql (b := false) rfl rfl rfl) rfl ?_
    refine TL.val (Yl.assign rfl) rfl ?_
    refine TL.next ?_
    refine TC.no rfl ?_
    refine TC.seq ?_
    refine TC.seq ?_
    refine TC.region ?_
    refine TL.val (Yl.eql (b := false) rfl rfl rfl) rfl ?_
    refine TL.val (Yl.assign rfl) rfl ?_
    refine TL.next ?_
    refine TC.no rfl ?_
    refine TC.region ?_
    refine TL.val (Yl.eql (b := false) rfl rfl rfl) rfl ?_
    refine TL.val (Yl.assign rfl) rfl ?_
    refine TL.next ?_
    refine TC.no rfl ?_
    refine TC.seq ?_
    refine TC.region ?_
    refine TL.val (Yl.eql (b := false) rfl rfl rfl) rfl ?_
    refine TL.val (Yl.assign rfl) rfl ?_
    refine TL.next ?_
    refine TC.no rfl ?_
    refine TC.skip_next ?_
    refine TC.seq ?_
    refine TC.seq ?_
    refine TC.region ?_
    refine TL.val (Yl.move rfl) rfl ?_
    refine TL.val (Yl.move rfl) rfl ?_
    refine TL.call (Cll.func (xs := [_, _]) (vs := [_, _]) Tryz.func57 rfl (by kernel_rfl) ⟨rfl, rfl, trivial⟩) rfl (Gives.of (fun _ h => Pulls.own (.cons (by repeat (first | exact Pull.head | apply Pull.tail | apply Pull.right)) .nil) _ h) (merge_g e 3 bh g _)) fun _ => ?_
    refine TL.val (Yl.assign rfl) rfl ?_
    refine TL.next ?_
    refine TC.seq ?_
    refine TC.region ?_
    refine TL.val (Yl.move rfl) rfl ?_
    refine TL.val (Yl.neqNilN Tryz.underlying58 rfl rfl) rfl ?_
    refine TL.next ?_
    refine TC.no rfl ?_
    refine TC.skip_next ?_
    refine TC.seq ?_
    refine TC.seq ?_
    refine TC.region ?_
    refine TL.val (Yl.move rfl) rfl ?_
    refine TL.val (Yl.neqS (r := false) rfl rfl rfl) rfl ?_
    refine TL.next ?_
    refine TC.no rfl ?_
    refine TC.skip_next ?_
    refine TC.seq ?_
    refine TC.seq ?_
    refine TC.region ?_
    refine TL.val (Yl.move rfl) rfl ?_
    refine TL.val (Yl.neqS (r := false) rfl rfl rfl) rfl ?_
    refine TL.next ?_
    refine TC.no rfl ?_
    refine TC.skip_next ?_
    refine TC.seq ?_
    refine TC.seq ?_
    refine TC.region ?_
    refine TL.val (Yl.move rfl) rfl ?_
    refine TL.val (Yl.nilCheckP rfl) rfl ?_
    refine TL.val (Yl.fieldAddr (k := 5) (m := 0) Tryz.underlying124 rfl sz5 rfl rfl) rfl ?_
    refine TL.val (Yl.load1 (v := .int .u8 53) Tryz.underlying5 rfl rfl (by repeat (first | exact Foc.head | apply Foc.tail | apply Foc.right)) (by rw [hdrL, hfl]; rfl)) rfl ?_
    refine TL.val (Yl.eql (b := false) rfl rfl rfl) rfl ?_
    refine TL.next ?_
    refine TC.no rfl ?_
    refine TC.skip_next ?_
    refine TC.seq ?_
    refine TC.seq ?_
    refine TC.region ?_
    refine TL.val (Yl.move rfl) rfl ?_
    refine TL.val (Yl.move rfl) rfl ?_
    refine TL.call (Cll.func (xs := [_, _]) (vs := [_, _]) Tryz.func54 rfl (by kernel_rfl) ⟨rfl, rfl, trivial⟩) rfl (Gives.of (fun _ h => Pulls.own (.cons (by repeat (first | exact Pull.head | apply Pull.tail | apply Pull.right)) (.cons (by repeat (first | exact Pull.head | apply Pull.tail | apply Pull.right)) .nil)) _ h) (data53_g R e.data.length (by omega) _ _ (hdrL e 3) rfl (by rw [hdrL, hfl]; rfl) bt bh g _)) fun _ => ?_
    refine TL.val (Yl.assign rfl) rfl ?_
    refine TL.next ?_
    refine TC.seq ?_
    refine TC.region ?_
    refine TL.val (Yl.move rfl) rfl ?_
    refine TL.val (Yl.neqNilN Tryz.underlying58 rfl rfl) rfl ?_
    refine TL.next ?_
    refine TC.no rfl ?_
    refine TC.skip_next ?_
    refine TC.seq ?_
    refine TC.seq ?_
    refine TC.region ?_
    refine TL.val (Yl.move rfl) rfl ?_
    refine TL.val (Yl.mask 1 rfl rfl rfl rfl) rfl ?_
    refine TL.val (Yl.neq (b := true) rfl rfl rfl) rfl ?_
    refine TL.val (Yl.move rfl) rfl ?_
    refine TL.yes rfl rfl rfl ?_
    refine TL.val (Yl.move rfl) rfl ?_
    refine TL.yes rfl rfl rfl ?_
    refine TL.val (Yl.and3 rfl rfl) rfl ?_
    refine TL.yes rfl rfl rfl ?_
    refine TL.val (Yl.neq (b := true) rfl rfl rfl) rfl ?_
    refine TL.val (Yl.pickT rfl rfl) rfl ?_
    refine TL.next ?_
    refine TC.yes rfl ?_
    refine TC.region ?_
    refine TL.val (Yl.assign rfl) rfl ?_
    refine TL.next ?_
    refine TC.seq ?_
    refine TC.region ?_
    refine TL.val (Yl.move rfl) rfl ?_
    refine TL.val (Yl.move rfl) rfl ?_
    refine TL.val (Yl.nilCheckP rfl) rfl ?_
    refine TL.val (Yl.fieldAddr (k := 122) (m := 21) Tryz.underlying124 rfl sz122 rfl rfl) rfl ?_
    refine TL.skp (Skp.store1 (v := .int .i64 1) (cs' := hdrL e 1) sz122 rfl rfl rfl (by repeat (first | exact Foc.head | apply Foc.tail | apply Foc.right)) (Nat.le_of_ble_eq_true rfl) rfl) ?_
    refine TL.next ?_
    refine TC.seq ?_
    refine TC.region ?_
    refine TL.val (Yl.move rfl) rfl ?_
    refine TL.val (Yl.assign rfl) rfl ?_
    refine TL.val (Yl.assign rfl) rfl ?_
    refine TL.next ?_
    exact TC.back2 ⟨bh, 1, s3⟩ rfl rfl rfl rfl (fun _ h => Pulls.own (.cons (by repeat (first | exact Pull.head | apply Pull.tail | apply Pull.right)) (.cons (by repeat (first | exact Pull.head | apply Pull.tail | apply Pull.right)) .nil)) _ h)
end Go.Proofs.YtlhncphipfkkjaaGreatDoor

namespace Go.Proofs.YtlhncphipfkkjaaGreatDoor
open Go
theorem tarNextEnd_g {ea : Addr} {d : List UInt8} (R : Rdr ea d) (hdl : d.length ≤ 1099511627776) (n left pad : Nat) (s : R.St n) (hl : left ≤ 30000) (hp : pad ≤ 30000) (hd : n + left + pad + 1024 ≤ d.length) (hz : (d.drop (n + left + pad)).take 512 = List.replicate 512 0) (hz2 : (d.drop (n + left + pad + 512)).take 512 = List.replicate 512 0) (bt : Nat) (g : World) (Fr : HL) : Gives Tryz.prog 35 #[pt bt 0] g ((bt, oC [.iface R.t R.v, .int .i64 (pad : Int), .iface R.t R.v, .int .i64 (left : Int), .nilIface] 182) :: (R.heap n s ++ (eofB ea :: Fr))) (R.St (n + left + pad + 512 + 512)) (fun _ => .tuple #[.pointer none, eofV ea])
    (fun q => (bt, oC [.iface R.t R.v, .int .i64 0, .iface R.t R.v, .int .i64 (left : Int), eofV ea] 182) :: (R.heap (n + left + pad + 512 + 512) q ++ (eofB ea :: Fr))) := by
  refine Gives.enter Tryz.func35 rfl Tryz.ntmps35 rfl ?_
  refine TC.seq ?_
  refine TC.region ?_
  refine TL.val (Yl.assign rfl) rfl ?_
  refine TL.val (Yl.assign rfl) rfl ?_
  refine TL.next ?_
  refine TC.seq ?_
  refine TC.seq ?_
  refine TC.region ?_
  refine TL.val (Yl.move rfl) rfl ?_
  refine TL.val (Yl.nilCheckP rfl) rfl ?_
  refine TL.val (Yl.fieldAddr (k := 58) (m := 4) (o := 4) Tryz.underlying182 rfl sz58 rfl rfl) rfl ?_
  refine TL.val (Yl.load1 Tryz.underlying58 rfl rfl (by repeat (first | exact Foc.head | apply Foc.tail | apply Foc.right)) rfl) rfl ?_
  refine TL.val (Yl.neqNilN Tryz.underlying58 rfl rfl) rfl ?_
  refine TL.next ?_
  refine TC.no rfl ?_
  refine TC.skip_next ?_
  refine TC.seq ?_
  refine TC.region ?_
  refine TL.val (Yl.move rfl) rfl ?_
  refine TL.call (Cll.func (xs := [_]) (vs := [_]) Tryz.func45 rfl (by kernel_rfl) ⟨rfl, trivial⟩) rfl (nextTarEnd_g R hdl n left pad s hl hp hd hz hz2 bt g Fr) fun q => ?_
  refine TL.val (Yl.move rfl) rfl ?_
  refine TL.val (Yl.extract rfl rfl) rfl ?_
  refine TL.val (Yl.extract rfl rfl) rfl ?_
  refine TL.val (Yl.assign rfl) rfl ?_
  refine TL.val (Yl.assign rfl) rfl ?_
  refine TL.next ?_
  refine TC.seq ?_
  refine TC.region ?_
  refine TL.val (Yl.move rfl) rfl ?_
  refine TL.val (Yl.move rfl) rfl ?_
  refine TL.val (Yl.nilCheckP rfl) rfl ?_
  refine TL.val (Yl.fieldAddr (k := 58) (m := 4) (o := 4) Tryz.underlying182 rfl sz58 rfl rfl) rfl ?_
  refine TL.skp (Skp.store1 (v := eofV ea) (cs' := [.iface R.t R.v, .int .i64 0, .iface R.t R.v, .int .i64 (left : Int), eofV ea]) sz58 rfl rfl rfl (by repeat (first | exact Foc.head | apply Foc.tail | apply Foc.right)) (Nat.le_of_ble_eq_true rfl) rfl) ?_
  refine TL.next ?_
  refine TC.seq ?_
  refine TC.region ?_
  refine TL.val (Yl.move rfl) rfl ?_
  refine TL.val (Yl.move rfl) rfl ?_
  refine TL.val (Yl.assign rfl) rfl ?_
  refine TL.val (Yl.assign rfl) rfl ?_
  refine TL.next ?_
  exact TC.back2 q rfl rfl rfl rfl (fun _ h => h)
theorem tarNext48_g {ea : Addr} {d : List UInt8} (R : Rdr ea d) (hdl : d.length ≤ 1099511627776) (n left pad : Nat) (s : R.St n) (hl : left ≤ 30000) (hp : pad ≤ 30000) (e : TE) (hfl : e.flag = 48) (he : e.name.length ≤ 100 ∧ e.link.length ≤ 100 ∧ e.data.length ≤ 100000 ∧ e.mode ≤ 100000) (hd : n + left + pad + 512 ≤ d.length) (hhd : (d.drop (n + left + pad)).take 512 = tarHead e) (bt : Nat) (g : World) (Fr : HL) : Gives Tryz.prog 35 #[pt bt 0] g ((bt, oC [.iface R.t R.v, .int .i64 (pad : Int), .iface R.t R.v, .int .i64 (left : Int), .nilIface] 182) :: (R.heap n s ++ (eofB ea :: Fr))) ((_ : Nat) × Int × R.St (n + left + pad + 512)) (fun q => .tuple #[pt q.1 0, .nilIface])
    (fun q => (q.1, oC (hdrL e q.2.1) 124) :: (bt, oC [.iface R.t R.v, .int .i64 ((padLen e.data.length : Nat) : Int), .iface R.t R.v, .int .i64 ((e.data.length : Nat) : Int), .nilIface] 182) :: (R.heap (n + left + pad + 512) q.2.2 ++ (eofB ea :: Fr))) := by
  refine Gives.enter Tryz.func35 rfl Tryz.ntmps35 rfl ?_
  refine TC.seq ?_
  refine TC.region ?_
  refine TL.val (Yl.assign rfl) rfl ?_
  refine TL.val (Yl.assign rfl) rfl ?_
  refine TL.next ?_
  refine TC.seq ?_
  refine TC.seq ?_
  refine TC.region ?_
  refine TL.val (Yl.move rfl) rfl ?_
  refine TL.val (Yl.nilCheckP rfl) rfl ?_
  refine TL.val (Yl.fieldAddr (k := 58) (m := 4) (o := 4) Tryz.underlying182 rfl sz58 rfl rfl) rfl ?_
  refine TL.val (Yl.load1 Tryz.underlying58 rfl rfl (by repeat (first | exact Foc.head | apply Foc.tail | apply Foc.right)) rfl) rfl ?_
  refine TL.val (Yl.neqNilN Tryz.underlying58 rfl rfl) rfl ?_
  refine TL.next ?_
  refine TC.no rfl ?_
  refine TC.skip_next ?_
  refine TC.seq ?_
  refine TC.region ?_
  refine TL.val (Yl.move rfl) rfl ?_
  refine TL.call (Cll.func (xs := [_]) (vs := [_]) Tryz.func45 rfl (by kernel_rfl) ⟨rfl, trivial⟩) rfl (nextTar48_g R hdl n left pad s hl hp e hfl he hd hhd bt g Fr) fun q => ?_
  refine TL.val (Yl.move rfl) rfl ?_
  refine TL.val (Yl.extract rfl rfl) rfl ?_
  refine TL.val (Yl.extract rfl rfl) rfl ?_
  refine TL.val (Yl.assign rfl) rfl ?_
  refine TL.val (Yl.assign rfl) rfl ?_
  refine TL.next ?_
  refine TC.seq ?_
  refine TC.region ?_
  refine TL.val (Yl.move rfl) rfl ?_
  refine TL.val (Yl.move rfl) rfl ?_
  refine TL.val (Yl.nilCheckP rfl) rfl ?_
  refine TL.val (Yl.fieldAddr (k := 58) (m := 4) (o := 4) Tryz.underlying182 rfl sz58 rfl rfl) rfl ?_
  refine TL.skp (Skp.store1 (v := .nilIface) (cs' := [.iface R.t R.v, .int .i64 ((padLen e.data.length : Nat) : Int), .iface R.t R.v, .int .i64 ((e.data.length : Nat) : Int), .nilIface]) sz58 rfl rfl rfl (by repeat (first | exact Foc.head | apply Foc.tail | apply Foc.right)) (Nat.le_of_ble_eq_true rfl) rfl) ?_
  refine TL.next ?_
  refine TC.seq ?_
  refine TC.region ?_
  refine TL.val (Yl.move rfl) rfl ?_
  refine TL.val (Yl.move rfl) rfl ?_
  refine TL.val (Yl.assign rfl) rfl ?_
  refine TL.val (Yl.assign rfl) rfl ?_
  refine TL.next ?_
  exact TC.back2 q rfl rfl rfl rfl (fun _ h => h)
theorem tarNext50_g {ea : Addr} {d : List UInt8} (R : Rdr ea d) (hdl : d.length ≤ 1099511627776) (n left pad : Nat) (s : R.St n) (hl : left ≤ 30000) (hp : pad ≤ 30000) (e : TE) (hfl : e.flag = 50) (he : e.name.length ≤ 100 ∧ e.link.length ≤ 100 ∧ e.data.length ≤ 100000 ∧ e.mode ≤ 100000) (hd : n + left + pad + 512 ≤ d.length) (hhd : (d.drop (n + left + pad)).take 512 = tarHead e) (bt : Nat) (g : World) (Fr : HL) : Gives Tryz.prog 35 #[pt bt 0] g ((bt, oC [.iface R.t R.v, .int .i64 (pad : Int), .iface R.t R.v, .int .i64 (left : Int), .nilIface] 182) :: (R.heap n s ++ (eofB ea :: Fr))) ((_ : Nat) × Int × R.St (n + left + pad + 512)) (fun q => .tuple #[pt q.1 0, .nilIface])
    (fun q => (q.1, oC (hdrL e q.2.1) 124) :: (bt, oC [.iface R.t R.v, .int .i64 ((padLen 0 : Nat) : Int), .iface R.t R.v, .int .i64 ((0 : Nat) : Int), .nilIface] 182) :: (R.heap (n + left + pad + 512) q.2.2 ++ (eofB ea :: Fr))) := by
  refine Gives.enter Tryz.func35 rfl Tryz.ntmps35 rfl ?_
  refine TC.seq ?_
  refine TC.region ?_
  refine TL.val (Yl.assign rfl) rfl ?_
  refine TL.val (Yl.assign rfl) rfl ?_
  refine TL.next ?_
  refine TC.seq ?_
  refine TC.seq ?_
  refine TC.region ?_
  refine TL.val (Yl.move rfl) rfl ?_
  refine TL.val (Yl.nilCheckP rfl) rfl ?_
  refine TL.val (Yl.fieldAddr (k := 58) (m := 4) (o := 4) Tryz.underlying182 rfl sz58 rfl rfl) rfl ?_
  refine TL.val (Yl.load1 Tryz.underlying58 rfl rfl (by repeat (first | exact Foc.head | apply Foc.tail | apply Foc.right)) rfl) rfl ?_
  refine TL.val (Yl.neqNilN Tryz.underlying58 rfl rfl) rfl ?_
  refine TL.next ?_
  refine TC.no rfl ?_
  refine TC.skip_next ?_
  refine TC.seq ?_
  refine TC.region ?_
  refine TL.val (Yl.move rfl) rfl ?_
  refine TL.call (Cll.func (xs := [_]) (vs := [_]) Tryz.func45 rfl (by kernel_rfl) ⟨rfl, trivial⟩) rfl (nextTar50_g R hdl n left pad s hl hp e hfl he hd hhd bt g Fr) fun q => ?_
  refine TL.val (Yl.move rfl) rfl ?_
  refine TL.val (Yl.extract rfl rfl) rfl ?_
  refine TL.val (Yl.extract rfl rfl) rfl ?_
  refine TL.val (Yl.assign rfl) rfl ?_
  refine TL.val (Yl.assign rfl) rfl ?_
  refine TL.next ?_
  refine TC.seq ?_
  refine TC.region ?_
  refine TL.val (Yl.move rfl) rfl ?_
  refine TL.val (Yl.move rfl) rfl ?_
  refine TL.val (Yl.nilCheckP rfl) rfl ?_
  refine TL.val (Yl.fieldAddr (k := 58) (m := 4) (o := 4) Tryz.underlying182 rfl sz58 rfl rfl) rfl ?_
  refine TL.skp (Skp.store1 (v := .nilIface) (cs' := [.iface R.t R.v, .int .i64 ((padLen 0 : Nat) : Int), .iface R.t R.v, .int .i64 ((0 : Nat) : Int), .nilIface]) sz58 rfl rfl rfl (by repeat (first | exact Foc.head | apply Foc.tail | apply Foc.right)) (Nat.le_of_ble_eq_true rfl) rfl) ?_
  refine TL.next ?_
  refine TC.seq ?_
  refine TC.region ?_
  refine TL.val (Yl.move rfl) rfl ?_
  refine TL.val (Yl.move rfl) rfl ?_
  refine TL.val (Yl.assign rfl) rfl ?_
  refine TL.val (Yl.assign rfl) rfl ?_
  refine TL.next ?_
  exact TC.back2 q rfl rfl rfl rfl (fun _ h => h)
theorem tarNext53_g {ea : Addr} {d : List UInt8} (R : Rdr ea d) (hdl : d.length ≤ 1099511627776) (n left pad : Nat) (s : R.St n) (hl : left ≤ 30000) (hp : pad ≤ 30000) (e : TE) (hfl : e.flag = 53) (he : e.name.length ≤ 100 ∧ e.link.length ≤ 100 ∧ e.data.length ≤ 100000 ∧ e.mode ≤ 100000) (hd : n + left + pad + 512 ≤ d.length) (hhd : (d.drop (n + left + pad)).take 512 = tarHead e) (bt : Nat) (g : World) (Fr : HL) : Gives Tryz.prog 35 #[pt bt 0] g ((bt, oC [.iface R.t R.v, .int .i64 (pad : Int), .iface R.t R.v, .int .i64 (left : Int), .nilIface] 182) :: (R.heap n s ++ (eofB ea :: Fr))) ((_ : Nat) × Int × R.St (n + left + pad + 512)) (fun q => .tuple #[pt q.1 0, .nilIface])
    (fun q => (q.1, oC (hdrL e q.2.1) 124) :: (bt, oC [.iface R.t R.v, .int .i64 ((padLen 0 : Nat) : Int), .iface R.t R.v, .int .i64 ((0 : Nat) : Int), .nilIface] 182) :: (R.heap (n + left + pad + 512) q.2.2 ++ (eofB ea :: Fr))) := by
  refine Gives.enter Tryz.func35 rfl Tryz.ntmps35 rfl ?_
  refine TC.seq ?_
  refine TC.region ?_
  refine TL.val (Yl.assign rfl) rfl ?_
  refine TL.val (Yl.assign rfl) rfl ?_
  refine TL.next ?_
  refine TC.seq ?_
  refine TC.seq ?_
  refine TC.region ?_
  refine TL.val (Yl.move rfl) rfl ?_
  refine TL.val (Yl.nilCheckP rfl) rfl ?_
  refine TL.val (Yl.fieldAddr (k := 58) (m := 4) (o := 4) Tryz.underlying182 rfl sz58 rfl rfl) rfl ?_
  refine TL.val (Yl.load1 Tryz.underlying58 rfl rfl (by repeat (first | exact Foc.head | apply Foc.tail | apply Foc.right)) rfl) rfl ?_
  refine TL.val (Yl.neqNilN Tryz.underlying58 rfl rfl) rfl ?_
  refine TL.next ?_
  refine TC.no rfl ?_
  refine TC.skip_next ?_
  refine TC.seq ?_
  refine TC.region ?_
  refine TL.val (Yl.move rfl) rfl ?_
  refine TL.call (Cll.func (xs := [_]) (vs := [_]) Tryz.func45 rfl (by kernel_rfl) ⟨rfl, trivial⟩) rfl (nextTar53_g R hdl n left pad s hl hp e hfl he hd hhd bt g Fr) fun q => ?_
  refine TL.val (Yl.move rfl) rfl ?_
  refine TL.val (Yl.extract rfl rfl) rfl ?_
  refine TL.val (Yl.extract rfl rfl) rfl ?_
  refine TL.val (Yl.assign rfl) rfl ?_
  refine TL.val (Yl.assign rfl) rfl ?_
  refine TL.next ?_
  refine TC.seq ?_
  refine TC.region ?_
  refine TL.val (Yl.move rfl) rfl ?_
  refine TL.val (Yl.move rfl) rfl ?_
  refine TL.val (Yl.nilCheckP rfl) rfl ?_
  refine TL.val (Yl.fieldAddr (k := 58) (m := 4) (o := 4) Tryz.underlying182 rfl sz58 rfl rfl) rfl ?_
  refine TL.skp (Skp.store1 (v := .nilIface) (cs' := [.iface R.t R.v, .int .i64 ((padLen 0 : Nat) : Int), .iface R.t R.v, .int .i64 ((0 : Nat) : Int), .nilIface]) sz58 rfl rfl rfl (by repeat (first | exact Foc.head | apply Foc.tail | apply Foc.right)) (Nat.le_of_ble_eq_true rfl) rfl) ?_
  refine TL.next ?_
  refine TC.seq ?_
  refine TC.region ?_
  refine TL.val (Yl.move rfl) rfl ?_
  refine TL.val (Yl.move rfl) rfl ?_
  refine TL.val (Yl.assign rfl) rfl ?_
  refine TL.val (Yl.assign rfl) rfl ?_
  refine TL.next ?_
  exact TC.back2 q rfl rfl rfl rfl (fun _ h => h)
end Go.Proofs.YtlhncphipfkkjaaGreatDoor
