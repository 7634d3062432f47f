/- The contracts of the parts of the program's tar reader; conditions: bounds on lengths, in each contract. -/
import Derived.Test.YtlhncphipfkkjaaGreatDoorW07
namespace Go.Proofs.YtlhncphipfkkjaaGreatDoor
open Go
theorem drain_g {ea : Addr} {d : List UInt8} (R : Rdr ea d) (n : Nat) (s : R.St n) (hn : n ≤ d.length) (hdl : d.length ≤ 1099511627776) (g : World) (Fr : HL) : Gives Tryz.prog 36 #[.iface R.t R.v] g (R.heap n s ++ (eofB ea :: Fr)) (R.St d.length) (fun _ => .tuple #[.int .i64 ((d.length : Int) - n), .nilIface]) (fun s => R.heap d.length s ++ (eofB ea :: Fr)) := by
  refine Gives.enter Tryz.func36 rfl Tryz.ntmps36 rfl ?_
  refine TC.seq ?_
  refine TC.region ?_
  refine TL.val (Yl.assign rfl) rfl ?_
  refine TL.val (Yl.assign rfl) rfl ?_
  refine TL.next ?_
  refine TC.seq ?_
  refine TC.region ?_
  refine TL.eff (Eff.makeB (i := 4096) (j := 4096) Tryz.underlying40 sz5 by5 zr5 rfl rfl rfl rfl (by omega) (by omega)) rfl fun b7 => ?_
  refine TL.val (Yl.assign rfl) rfl ?_
  refine TL.next ?_
  refine TC.block ?_
  refine TC.loopI (σ := ((i : Nat) × R.St i) × List UInt8) (fun p => [(0, .iface R.t R.v), (2, .int .i64 ((p.1.1 : Int) - n)), (4, sl b7 0 4096 4096)]) (fun p => R.heap p.1.1 p.1.2 ++ ((b7, oC (bV p.2) 5) :: eofB ea :: Fr)) (fun p => n ≤ p.1.1 ∧ p.1.1 ≤ d.length ∧ p.2.length = 4096) (fun p => d.length - p.1.1) (⟨n, s⟩, List.replicate 4096 0) ⟨rfl, (congrArg (fun z => some (Value.int .i64 z)) (by show (0 : Int) = (n : Int) - n; omega)), rfl, trivial⟩ (fun _ h => Own.mid (A := [(b7, _)]) h) ⟨Nat.le_refl _, hn, List.length_replicate⟩ (fun p hp => ?_)
  obtain ⟨⟨i, s⟩, l⟩ := p
  obtain ⟨h1, h2, h3⟩ := hp
  dsimp only at h1 h2 h3 ⊢
  refine TC.block ?_
  refine TC.seq ?_
  by_cases hlt : i < d.length
  · refine TC.region ?_
    refine TL.val (Yl.move rfl) rfl ?_
    refine TL.val (Yl.move rfl) rfl ?_
    refine TL.call (Cll.inv (xs := [_]) (vs := [_]) R.hf R.hb R.hn R.hm rfl ⟨rfl, trivial⟩) rfl (R.read i s hlt 5 l b7 0 4096 4096 (by decide) (by decide) (by omega) g Fr) fun q => ?_
    have hk1 := q.1.2.1
    have hk2 := q.1.2.2.1
    have hk3 := q.1.2.2.2
    refine TL.val (Yl.move rfl) rfl ?_
    refine TL.val (Yl.extract rfl rfl) rfl ?_
    refine TL.val (Yl.extract rfl rfl) rfl ?_
    refine TL.val (Yl.assign rfl) rfl ?_
    refine TL.val (Yl.assign rfl) rfl ?_
    refine TL.next ?_
    refine TC.seq ?_
    refine TC.region ?_
    refine TL.val (Yl.move rfl) rfl ?_
    refine TL.val (Yl.move rfl) rfl ?_
    refine TL.val (Yl.add rfl rfl (wI (by omega))) rfl ?_
    refine TL.val (Yl.assign rfl) rfl ?_
    refine TL.next ?_
    refine TC.seq ?_
    refine TC.seq ?_
    refine TC.region ?_
    refine TL.val (Yl.move rfl) rfl ?_
    refine TL.val (Yl.load1 (v := eofV ea) Tryz.underlying58 rfl rfl (by repeat (first | exact Foc.head | apply Foc.tail | apply Foc.right)) rfl) rfl ?_
    refine TL.val (Yl.eqlN Tryz.underlying58 rfl rfl) rfl ?_
    refine TL.next ?_
    refine TC.no rfl ?_
    refine TC.skip_next ?_
    refine TC.seq ?_
    refine TC.region ?_
    refine TL.val (Yl.move rfl) rfl ?_
    refine TL.val (Yl.neqNilN Tryz.underlying58 rfl rfl) rfl ?_
    refine TL.next ?_
    refine TC.no rfl ?_
    exact TC.skip (Inv.again (⟨i + q.1.1, q.2⟩, layB l 0 ((d.drop i).take q.1.1)) ⟨by show n ≤ i + q.1.1; omega, by show i + q.1.1 ≤ d.length; omega, by show (layB l 0 ((d.drop i).take q.1.1)).length = 4096; rw [layB_length (by rw [take_len (by omega)]; omega)]; exact h3⟩ (by show d.length - (i + q.1.1) < d.length - i; omega) ⟨rfl, (congrArg (fun z => some (Value.int .i64 z)) (by show _ = ((i + q.1.1 : Nat) : Int) - n; omega)), rfl, trivial⟩ (fun _ h => h))
  · obtain rfl : i = d.length := by omega
    refine TC.region ?_
    refine TL.val (Yl.move rfl) rfl ?_
    refine TL.val (Yl.move rfl) rfl ?_
    refine TL.call (Cll.inv (xs := [_]) (vs := [_]) R.hf R.hb R.hn R.hm rfl ⟨rfl, trivial⟩) rfl (R.eof s 5 l b7 0 4096 4096 (by decide) (by decide) (by omega) g Fr) fun q => ?_
    refine TL.val (Yl.move rfl) rfl ?_
    refine TL.val (Yl.extract rfl rfl) rfl ?_
    refine TL.val (Yl.extract rfl rfl) rfl ?_
    refine TL.val (Yl.assign rfl) rfl ?_
    refine TL.val (Yl.assign rfl) rfl ?_
    refine TL.next ?_
    refine TC.seq ?_
    refine TC.region ?_
    refine TL.val (Yl.move rfl) rfl ?_
    refine TL.val (Yl.move rfl) rfl ?_
    refine TL.val (Yl.add rfl rfl (wI (by omega))) rfl ?_
    refine TL.val (Yl.assign rfl) rfl ?_
    refine TL.next ?_
    refine TC.seq ?_
    refine TC.seq ?_
    refine TC.region ?_
    refine TL.val (Yl.move rfl) rfl ?_
    refine TL.val (Yl.load1 (v := eofV ea) Tryz.underlying58 rfl rfl (by repeat (first | exact Foc.head | apply Foc.tail | apply Foc.right)) rfl) rfl ?_
    refine TL.val (Yl.eqlP Tryz.underlying58 Tryz.underlying94 (SizeIs.of (n := 1) (by kernel_rfl)) (by kernel_rfl) rfl rfl) rfl ?_
    refine TL.next ?_
    refine TC.yes rfl ?_
    refine TC.seq ?_
    refine TC.region ?_
    refine TL.val (Yl.move rfl) rfl ?_
    refine TL.val (Yl.assign rfl) rfl ?_
    refine TL.val (Yl.assign rfl) rfl ?_
    refine TL.next ?_
    exact TC.back2 q rfl rfl rfl (congrArg (fun z => Value.tuple #[.int .i64 z, .nilIface]) (show (d.length : Int) - n = (d.length : Int) - n + 0 by omega)) (fun _ h => h.sub (List.Sublist.append (.refl _) (.cons _ (.refl _))))
theorem gzClose_q (v : Value) : Quiet Tryz.prog 37 #[v] [] .nilIface := by
  refine Quiet.of_gives fun g Fr => ?_
  refine Gives.enter Tryz.func37 rfl Tryz.ntmps37 rfl ?_
  refine TC.seq ?_
  refine TC.region ?_
  refine TL.val (Yl.assign rfl) rfl ?_
  refine TL.next ?_
  refine TC.seq ?_
  refine TC.region ?_
  refine TL.val (Yl.assign rfl) rfl ?_
  refine TL.next ?_
  exact TC.back1 () rfl rfl (fun _ h => h)
theorem newTar_g {ea : Addr} {d : List UInt8} (R : Rdr ea d) (g : World) (Fr : HL) : Gives Tryz.prog 34 #[.iface R.t R.v] g Fr Nat (fun b => pt b 0) (fun b => (b, oC [.iface R.t R.v, .int .i64 0, .iface R.t R.v, .int .i64 0, .nilIface] 182) :: Fr) := by
  refine Gives.enter Tryz.func34 rfl Tryz.ntmps34 rfl ?_
  refine TC.seq ?_
  refine TC.region ?_
  refine TL.val (Yl.assign rfl) rfl ?_
  refine TL.next ?_
  refine TC.seq ?_
  refine TC.region ?_
  refine TL.val (Yl.move rfl) rfl ?_
  refine TL.val (Yl.move rfl) rfl ?_
  refine TL.val (Yl.build (ixs := [0]) (vs := [.iface R.t R.v]) (rs := [.iface R.t R.v, .int .i64 0]) [_] st180 rfl ⟨rfl, trivial⟩ rfl) rfl ?_
  refine TL.val (Yl.build (ixs := [0, 2]) (vs := [.iface R.t R.v, .agg ⟨[.iface R.t R.v, .int .i64 0]⟩]) (rs := [.iface R.t R.v, .int .i64 0, .iface R.t R.v, .int .i64 0, .nilIface]) [_, _] st182 rfl ⟨rfl, rfl, trivial⟩ rfl) rfl ?_
  refine TL.eff (Eff.box (v := .agg ⟨[.iface R.t R.v, .int .i64 0, .iface R.t R.v, .int .i64 0, .nilIface]⟩) rfl rfl) rfl fun b7 => ?_
  refine TL.val (Yl.assign rfl) rfl ?_
  refine TL.next ?_
  exact TC.back1 (σ := Nat) b7 rfl rfl (fun _ h => h)
end Go.Proofs.YtlhncphipfkkjaaGreatDoor

namespace Go.Proofs.YtlhncphipfkkjaaGreatDoor
open Go
theorem bare48_q : Quiet Tryz.prog 70 #[.int .u8 48] [] (.bool false) := by
  refine Quiet.of_gives fun g Fr => ?_
  refine Gives.enter Tryz.func70 rfl Tryz.ntmps70 rfl ?_
  refine TC.seq ?_
  refine TC.region ?_
  refine TL.val (Yl.assign rfl) rfl ?_
  refine TL.next ?_
  refine TC.seq ?_
  refine TC.seq ?_
  refine TC.region ?_
  refine TL.val (Yl.move rfl) rfl ?_
  refine TL.next ?_
  refine TC.block ?_
  refine TC.seq ?_
  refine TC.seq ?_
  refine TC.region ?_
  refine TL.val (Yl.eql (b := false) rfl rfl rfl) rfl ?_
  refine TL.val (Yl.assign rfl) rfl ?_
  refine TL.next ?_
  refine TC.no rfl ?_
  refine TC.seq ?_
  refine TC.region ?_
  refine TL.val (Yl.eql (b := false) rfl rfl rfl) rfl ?_
  refine TL.val (Yl.assign rfl) rfl ?_
  refine TL.next ?_
  refine TC.no rfl ?_
  refine TC.seq ?_
  refine TC.region ?_
  refine TL.val (Yl.eql (b := false) rfl rfl rfl) rfl ?_
  refine TL.val (Yl.assign rfl) rfl ?_
  refine TL.next ?_
  refine TC.no rfl ?_
  refine TC.seq ?_
  refine TC.region ?_
  refine TL.val (Yl.eql (b := false) rfl rfl rfl) rfl ?_
  refine TL.val (Yl.assign rfl) rfl ?_
  refine TL.next ?_
  refine TC.no rfl ?_
  refine TC.seq ?_
  refine TC.region ?_
  refine TL.val (Yl.eql (b := false) rfl rfl rfl) rfl ?_
  refine TL.val (Yl.assign rfl) rfl ?_
  refine TL.next ?_
  refine TC.no rfl ?_
  refine TC.region ?_
  refine TL.val (Yl.eql (b := false) rfl rfl rfl) rfl ?_
  refine TL.val (Yl.assign rfl) rfl ?_
  refine TL.next ?_
  refine TC.no rfl ?_
  refine TC.skip_next ?_
  refine TC.seq ?_
  refine TC.region ?_
  refine TL.val (Yl.assign rfl) rfl ?_
  refine TL.next ?_
  exact TC.back1 () rfl rfl (fun _ h => h.sub (by repeat (first | exact List.Sublist.refl _ | exact List.sublist_append_right _ _ | refine List.Sublist.cons_cons _ ?_ | refine List.Sublist.cons _ ?_)))
theorem bare50_q : Quiet Tryz.prog 70 #[.int .u8 50] [] (.bool true) := by
  refine Quiet.of_gives fun g Fr => ?_
  refine Gives.enter Tryz.func70 rfl Tryz.ntmps70 rfl ?_
  refine TC.seq ?_
  refine TC.region ?_
  refine TL.val (Yl.assign rfl) rfl ?_
  refine TL.next ?_
  refine TC.seq ?_
  refine TC.seq ?_
  refine TC.region ?_
  refine TL.val (Yl.move rfl) rfl ?_
  refine TL.next ?_
  refine TC.block ?_
  refine TC.seq ?_
  refine TC.seq ?_
  refine TC.region ?_
  refine TL.val (Yl.eql (b := false) rfl rfl rfl) rfl ?_
  refine TL.val (Yl.assign rfl) rfl ?_
  refine TL.next ?_
  refine TC.no rfl ?_
  refine TC.seq ?_
  refine TC.region ?_
  refine TL.val (Yl.eql (b := true) rfl rfl rfl) rfl ?_
  refine TL.val (Yl.assign rfl) rfl ?_
  refine TL.next ?_
  refine TC.yes rfl ?_
  refine TC.skip_next ?_
  refine TC.yes rfl ?_
  refine TC.seq ?_
  refine TC.region ?_
  refine TL.val (Yl.assign rfl) rfl ?_
  refine TL.next ?_
  exact TC.back1 () rfl rfl (fun _ h => h.sub (by repeat (first | exact List.Sublist.refl _ | exact List.sublist_append_right _ _ | refine List.Sublist.cons_cons _ ?_ | refine List.Sublist.cons _ ?_)))
theorem bare53_q : Quiet Tryz.prog 70 #[.int .u8 53] [] (.bool true) := by
  refine Quiet.of_gives fun g Fr => ?_
  refine Gives.enter Tryz.func70 rfl Tryz.ntmps70 rfl ?_
  refine TC.seq ?_
  refine TC.region ?_
  refine TL.val (Yl.assign rfl) rfl ?_
  refine TL.next ?_
  refine TC.seq ?_
  refine TC.seq ?_
  refine TC.region ?_
  refine TL.val (Yl.move rfl) rfl ?_
  refine TL.next ?_
  refine TC.block ?_
  refine TC.seq ?_
  refine TC.seq ?_
  refine TC.region ?_
  refine TL.val (Yl.eql (b := false) rfl rfl rfl) rfl ?_
  refine TL.val (Yl.assign rfl) rfl ?_
  refine TL.next ?_
  refine TC.no rfl ?_
  refine TC.seq ?_
  refine TC.region ?_
  refine TL.val (Yl.eql (b := false) rfl rfl rfl) rfl ?_
  refine TL.val (Yl.assign rfl) rfl ?_
  refine TL.next ?_
  refine TC.no rfl ?_
  refine TC.seq ?_
  refine TC.region ?_
  refine TL.val (Yl.eql (b := false) rfl rfl rfl) rfl ?_
  refine TL.val (Yl.assign rfl) rfl ?_
  refine TL.next ?_
  refine TC.no rfl ?_
  refine TC.seq ?_
  refine TC.region ?_
  refine TL.val (Yl.eql (b := false) rfl rfl rfl) rfl ?_
  refine TL.val (Yl.assign rfl) rfl ?_
  refine TL.next ?_
  refine TC.no rfl ?_
  refine TC.seq ?_
  refine TC.region ?_
  refine TL.val (Yl.eql (b := true) rfl rfl rfl) rfl ?_
  refine TL.val (Yl.assign rfl) rfl ?_
  refine TL.next ?_
  refine TC.yes rfl ?_
  refine TC.skip_next ?_
  refine TC.yes rfl ?_
  refine TC.seq ?_
  refine TC.region ?_
  refine TL.val (Yl.assign rfl) rfl ?_
  refine TL.next ?_
  exact TC.back1 () rfl rfl (fun _ h => h.sub (by repeat (first | exact List.Sublist.refl _ | exact List.sublist_append_right _ _ | refine List.Sublist.cons_cons _ ?_ | refine List.Sublist.cons _ ?_)))
theorem pad_q (n : Nat) (hn : n ≤ 1099511627776) : Quiet Tryz.prog 71 #[.int .i64 (n : Int)] [] (.int .i64 ((padLen n : Nat) : Int)) := by
  refine Quiet.of_gives fun g Fr => ?_
  refine Gives.enter Tryz.func71 rfl Tryz.ntmps71 rfl ?_
  refine TC.seq ?_
  refine TC.region ?_
  refine TL.val (Yl.assign rfl) rfl ?_
  refine TL.next ?_
  refine TC.seq ?_
  refine TC.region ?_
  refine TL.val (Yl.move rfl) rfl ?_
  refine TL.val (Yl.neg rfl (wI (by omega))) rfl ?_
  refine TL.val (Yl.mask 9 rfl rfl rfl rfl) rfl ?_
  refine TL.val (Yl.assign rfl) rfl ?_
  refine TL.next ?_
  rw [show (0 - (n : Int)) % 2 ^ 9 = ((padLen n : Nat) : Int) by unfold padLen; omega]
  exact TC.back1 () rfl rfl (fun _ h => h.sub (by repeat (first | exact List.Sublist.refl _ | exact List.sublist_append_right _ _ | refine List.Sublist.cons_cons _ ?_ | refine List.Sublist.cons _ ?_)))
/-- what is ahead of the first NUL -/
def cut0 : List UInt8 → List UInt8
  | [] => []
  | c :: r => if c = 0 then [] else c :: cut0 r
def cutN (l : List UInt8) : Nat := (cut0 l).length
theorem cut0_take : ∀ (l : List UInt8), l.take (cutN l) = cut0 l
  | [] => rfl
  | c :: r => by
    unfold cutN cut0
    split
    · rfl
    · rw [List.length_cons, List.take_succ_cons]; exact congrArg _ (cut0_take r)
theorem cutN_le (l : List UInt8) : cutN l ≤ l.length := by
  have := congrArg List.length (cut0_take l)
  rw [List.length_take] at this
  have h2 : (cut0 l).length = cutN l := rfl
  omega
theorem cutN_get : ∀ (l : List UInt8) (k : Nat) (c : UInt8), l[k]? = some c → (k < cutN l → c ≠ 0) ∧ (k = cutN l → c = 0)
  | [], k, c, h => by simp at h
  | a :: r, k, c, h => by
    unfold cutN cut0
    by_cases ha : a = 0
    · rw [if_pos ha]
      refine ⟨fun hk => by simp at hk, fun hk => ?_⟩
      subst hk; simp at h; rw [← h, ha]
    · rw [if_neg ha, List.length_cons]
      cases k with
      | zero => simp at h; exact ⟨fun _ => h ▸ ha, fun hk => by omega⟩
      | succ k =>
        rw [List.getElem?_cons_succ] at h
        have := cutN_get r k c h
        exact ⟨fun hk => this.1 (by unfold cutN; omega), fun hk => this.2 (by unfold cutN; omega)⟩
theorem index_q (l : List UInt8) (hl : l.length ≤ 1000000) : Quiet Tryz.prog 73 #[vS l, .int .u8 0] [] (.int .i64 (if cutN l < l.length then (cutN l : Int) else -1)) := by
  refine Quiet.of_gives fun g Fr => ?_
  refine Gives.enter Tryz.func73 rfl Tryz.ntmps73 rfl ?_
  refine TC.seq ?_
  refine TC.region ?_
  refine TL.val (Yl.assign rfl) rfl ?_
  refine TL.next ?_
  refine TC.seq ?_
  refine TC.seq ?_
  refine TC.region ?_
  refine TL.val (Yl.move rfl) rfl ?_
  refine TL.val (Yl.lenS Tryz.underlying9 rfl) rfl ?_
  refine TL.val (Yl.move rfl) rfl ?_
  refine TL.next ?_
  refine TC.block ?_
  refine TC.loopI (σ := Nat) (fun k => [(0, vS l), (1, .int .u8 0), (7, .int .i64 (l.length : Int)), (8, .int .i64 (k : Int))]) (fun k => Fr) (fun k => k ≤ cutN l) (fun k => cutN l - k) 0 ⟨rfl, rfl, rfl, rfl, trivial⟩ (fun _ h => h) (Nat.zero_le _) (fun k hk => ?_)
  have hcl := cutN_le l
  refine TC.seq ?_
  refine TC.region ?_
  refine TL.val (Yl.lss rfl rfl rfl) rfl ?_
  refine TL.next ?_
  refine TC.seq ?_
  refine TC.cond rfl (fun hc9 => ?_) (fun hc9 => ?_)
  · replace hc9 := of_decide_eq_true hc9
    refine TC.skip_next ?_
    refine TC.seq ?_
    refine TC.block ?_
    refine TC.seq ?_
    obtain ⟨c, hc⟩ : ∃ c, l[k]? = some c := ⟨l[k]'(by omega), List.getElem?_eq_getElem (by omega)⟩
    obtain ⟨hc1, hc2⟩ := cutN_get l k c hc
    refine TC.region ?_
    refine TL.val (Yl.move rfl) rfl ?_
    refine TL.val (Yl.assign rfl) rfl ?_
    refine TL.next ?_
    refine TC.seq ?_
    by_cases hkk : k = cutN l
    · have hc0 := hc2 hkk
      subst hc0
      refine TC.region ?_
      refine TL.val (Yl.move rfl) rfl ?_
      refine TL.val (Yl.move rfl) rfl ?_
      refine TL.val (Yl.idxS (j := k) Tryz.underlying9 rfl rfl rfl hc) rfl ?_
      refine TL.val (Yl.move rfl) rfl ?_
      refine TL.val (Yl.eql (b := true) rfl rfl rfl) rfl ?_
      refine TL.next ?_
      refine TC.yes rfl ?_
      refine TC.seq ?_
      refine TC.region ?_
      refine TL.val (Yl.move rfl) rfl ?_
      refine TL.val (Yl.assign rfl) rfl ?_
      refine TL.next ?_
      exact TC.back1 () rfl (congrArg (fun z => some (Value.int .i64 z)) (by show (k : Int) = if cutN l < l.length then (cutN l : Int) else -1; have := (List.getElem?_eq_some_iff.1 hc).1; rw [if_pos (by omega)]; omega)) (fun _ h => h.sub (by repeat (first | exact List.Sublist.refl _ | exact List.sublist_append_right _ _ | refine List.Sublist.cons_cons _ ?_ | refine List.Sublist.cons _ ?_)))
    · have hk2 : k < cutN l := by omega
      have hc0 := hc1 hk2
      refine TC.region ?_
      refine TL.val (Yl.move rfl) rfl ?_
      refine TL.val (Yl.move rfl) rfl ?_
      refine TL.val (Yl.idxS (j := k) Tryz.underlying9 rfl rfl rfl hc) rfl ?_
      refine TL.val (Yl.move rfl) rfl ?_
      refine TL.val (Yl.eql rfl rfl (decide_eq_false (fun h => hc0 (UInt8.toNat_inj.1 (by have : (c.toNat : Int) = 0 := h; show c.toNat = 0; omega))))) rfl ?_
      refine TL.next ?_
      refine TC.no rfl ?_
      refine TC.skip_next ?_
      refine TC.region ?_
      refine TL.val (Yl.add rfl rfl (wI (by omega))) rfl ?_
      refine TL.val (Yl.move rfl) rfl ?_
      exact TL.done (Inv.again (k + 1) (by omega) (by omega) ⟨rfl, rfl, rfl, rfl, trivial⟩ (fun _ h => h))
  · replace hc9 := of_decide_eq_false hc9
    refine TC.exit_next rfl ?_
    refine TC.seq ?_
    refine TC.region ?_
    refine TL.val (Yl.assign rfl) rfl ?_
    refine TL.next ?_
    exact TC.back1 () rfl (congrArg (fun z => some (Value.int .i64 z)) (by show (-1 : Int) = if cutN l < l.length then (cutN l : Int) else -1; rw [if_neg (by omega)])) (fun _ h => h.sub (by repeat (first | exact List.Sublist.refl _ | exact List.sublist_append_right _ _ | refine List.Sublist.cons_cons _ ?_ | refine List.Sublist.cons _ ?_)))
theorem str_q {te : TypeId} (l xs : List UInt8) (b off n cap : Nat) (fr : Nat × Nat) (hx : (l.drop off).take n = xs) (hn : off + n ≤ l.length) (hl : xs.length ≤ 1000000) : Quiet Tryz.prog 58 #[sl b off n cap] [(b, .cells ⟨bV l⟩ te fr)] (vS (cut0 xs)) := by
  refine Quiet.of_gives fun g Fr => ?_
  refine Gives.enter Tryz.func58 rfl Tryz.ntmps58 rfl ?_
  refine TC.seq ?_
  refine TC.region ?_
  refine TL.val (Yl.assign rfl) rfl ?_
  refine TL.next ?_
  refine TC.seq ?_
  refine TC.region ?_
  refine TL.val (Yl.move rfl) rfl ?_
  refine TL.val (Yl.strB (m := xs) Tryz.underlying40 Tryz.underlying5 Tryz.underlying9 rfl (by repeat (first | exact Foc.head | apply Foc.tail | apply Foc.right)) hx (by omega)) rfl ?_
  refine TL.val (Yl.assign rfl) rfl ?_
  refine TL.next ?_
  refine TC.seq ?_
  refine TC.seq ?_
  refine TC.region ?_
  refine TL.val (Yl.move rfl) rfl ?_
  refine TL.quiet (Cll.func (xs := [_, _]) (vs := [_, _]) Tryz.func73 rfl (by kernel_rfl) ⟨rfl, rfl, trivial⟩) rfl (Quiet.none (index_q xs hl)) ?_
  refine TL.val (Yl.assign rfl) rfl ?_
  refine TL.next ?_
  refine TC.seq ?_
  by_cases hlt : cutN xs < xs.length
  · rw [if_pos hlt]
    refine TC.region ?_
    refine TL.val (Yl.move rfl) rfl ?_
    refine TL.val (Yl.geq rfl rfl (decide_eq_true (by omega))) rfl ?_
    refine TL.next ?_
    refine TC.yes rfl ?_
    refine TC.seq ?_
    refine TC.region ?_
    refine TL.val (Yl.move rfl) rfl ?_
    refine TL.val (Yl.move rfl) rfl ?_
    refine TL.val (Yl.sliceSH (j := cutN xs) Tryz.underlying9 rfl rfl rfl (by omega)) rfl ?_
    refine TL.val (Yl.assign rfl) rfl ?_
    refine TL.next ?_
    rw [cut0_take]
    exact TC.back1 () rfl rfl (fun _ h => h.sub (by repeat (first | exact List.Sublist.refl _ | exact List.sublist_append_right _ _ | refine List.Sublist.cons_cons _ ?_ | refine List.Sublist.cons _ ?_)))
  · rw [if_neg hlt]
    refine TC.region ?_
    refine TL.val (Yl.move rfl) rfl ?_
    refine TL.val (Yl.geq (b := false) rfl rfl rfl) rfl ?_
    refine TL.next ?_
    refine TC.no rfl ?_
    refine TC.skip_next ?_
    refine TC.seq ?_
    refine TC.region ?_
    refine TL.val (Yl.move rfl) rfl ?_
    refine TL.val (Yl.assign rfl) rfl ?_
    refine TL.next ?_
    exact TC.back1 () rfl (congrArg (fun z => some (vS z)) (by have h1 := cutN_le xs; have h2 := cut0_take xs; rw [List.take_of_length_le (by omega)] at h2; exact h2)) (fun _ h => h.sub (by repeat (first | exact List.Sublist.refl _ | exact List.sublist_append_right _ _ | refine List.Sublist.cons_cons _ ?_ | refine List.Sublist.cons _ ?_)))
end Go.Proofs.YtlhncphipfkkjaaGreatDoor

namespace Go.Proofs.YtlhncphipfkkjaaGreatDoor
open Go
theorem unix_q : Quiet Tryz.prog 67 #[.int .i64 0, .int .i64 0] [] (.agg ⟨[.int .i64 62135596800, .int .i64 0, .int .i64 0]⟩) := by
  refine Quiet.of_gives fun g Fr => ?_
  refine Gives.enter Tryz.func67 rfl Tryz.ntmps67 rfl ?_
  refine TC.seq ?_
  refine TC.region ?_
  refine TL.eff (Eff.alloc zr121 rfl) rfl fun b4 => ?_
  refine TL.next ?_
  refine TC.seq ?_
  refine TC.seq ?_
  refine TC.region ?_
  refine TL.val (Yl.move rfl) rfl ?_
  refine TL.val (Yl.lss (b := false) rfl rfl rfl) rfl ?_
  refine TL.val (Yl.move rfl) rfl ?_
  refine TL.yes rfl rfl rfl ?_
  refine TL.val (Yl.move rfl) rfl ?_
  refine TL.yes rfl rfl rfl ?_
  refine TL.val (Yl.geq (b := false) rfl rfl rfl) rfl ?_
  refine TL.val (Yl.pickF rfl rfl) rfl ?_
  refine TL.next ?_
  refine TC.no rfl ?_
  refine TC.skip_next ?_
  refine TC.seq ?_
  refine TC.region ?_
  refine TL.val (Yl.move rfl) rfl ?_
  refine TL.val (Yl.add (r := 62135596800) rfl rfl (wI (by omega))) rfl ?_
  refine TL.val (Yl.move rfl) rfl ?_
  refine TL.val (Yl.build (ixs := [0, 1]) (vs := [_, _]) (rs := [.int .i64 62135596800, .int .i64 0, .int .i64 0]) [_, _] st121 rfl ⟨rfl, rfl, trivial⟩ rfl) rfl ?_
  refine TL.skp (Skp.storeA (vs := [.int .i64 62135596800, .int .i64 0, .int .i64 0]) sz121 rfl rfl rfl (by repeat (first | exact Foc.head | apply Foc.tail | apply Foc.right)) (Nat.le_of_ble_eq_true rfl) rfl) ?_
  refine TL.next ?_
  exact TC.backC () rfl rfl Tryz.underlying121 rfl (vs := [.int .i64 62135596800, .int .i64 0, .int .i64 0]) sz121 (by repeat (first | exact Foc.head | apply Foc.tail | apply Foc.right)) rfl rfl (fun _ h => h.sub (by repeat (first | exact List.Sublist.refl _ | exact List.sublist_append_right _ _ | refine List.Sublist.cons_cons _ ?_ | refine List.Sublist.cons _ ?_)))
theorem nowhere_q (bp off m cap : Nat) : Quiet Tryz.prog 186 #[.agg ⟨[]⟩, sl bp off m cap] [] (.tuple #[.int .i64 (m : Int), .nilIface]) := by
  refine Quiet.of_gives fun g Fr => ?_
  refine Gives.enter Tryz.func186 rfl Tryz.ntmps186 rfl ?_
  refine TC.seq ?_
  refine TC.region ?_
  refine TL.eff (Eff.box (v := .agg ⟨[]⟩) rfl rfl) rfl fun b2 => ?_
  refine TL.val (Yl.assign rfl) rfl ?_
  refine TL.val (Yl.assign rfl) rfl ?_
  refine TL.next ?_
  refine TC.seq ?_
  refine TC.region ?_
  refine TL.val (Yl.move rfl) rfl ?_
  refine TL.val (Yl.lenL Tryz.underlying40 rfl) rfl ?_
  refine TL.val (Yl.assign rfl) rfl ?_
  refine TL.val (Yl.assign rfl) rfl ?_
  refine TL.next ?_
  exact TC.back2 () rfl rfl rfl rfl (fun _ h => h.sub (by repeat (first | exact List.Sublist.refl _ | exact List.sublist_append_right _ _ | refine List.Sublist.cons_cons _ ?_ | refine List.Sublist.cons _ ?_)))
theorem limit_g {ea : Addr} {d : List UInt8} (R : Rdr ea d) (n : Nat) (g : World) (Fr : HL) : Gives Tryz.prog 72 #[.iface R.t R.v, .int .i64 (n : Int)] g Fr Nat (fun b => .iface 228 (pt b 0)) (fun b => (b, oC [.iface R.t R.v, .int .i64 (n : Int)] 231) :: Fr) := by
  refine Gives.enter Tryz.func72 rfl Tryz.ntmps72 rfl ?_
  refine TC.seq ?_
  refine TC.region ?_
  refine TL.val (Yl.assign rfl) rfl ?_
  refine TL.next ?_
  refine TC.seq ?_
  refine TC.region ?_
  refine TL.val (Yl.move rfl) rfl ?_
  refine TL.val (Yl.move rfl) rfl ?_
  refine TL.val (Yl.build (ixs := [0, 1]) (vs := [.iface R.t R.v, .int .i64 (n : Int)]) (rs := [.iface R.t R.v, .int .i64 (n : Int)]) [_, _] st231 rfl ⟨rfl, rfl, trivial⟩ rfl) rfl ?_
  refine TL.eff (Eff.box (v := .agg ⟨[.iface R.t R.v, .int .i64 (n : Int)]⟩) rfl rfl) rfl fun b8 => ?_
  refine TL.val (Yl.iface Tryz.underlying228 rfl rfl) rfl ?_
  refine TL.val (Yl.assign rfl) rfl ?_
  refine TL.next ?_
  exact TC.back1 (σ := Nat) b8 rfl rfl (fun _ h => h)
def chkB (h : List UInt8) (i : Nat) : UInt8 := if 148 ≤ i ∧ i < 156 then 32 else byteAt h i
def chkU (h : List UInt8) : Nat → Nat
  | 0 => 0
  | k + 1 => chkU h k + (chkB h k).toNat
def sgn (c : UInt8) : Int := IntKind.i8.wrap (c.toNat : Int)
theorem sgn_b (c : UInt8) : -128 ≤ sgn c ∧ sgn c ≤ 127 := by
  have := c.toNat_lt
  have e : sgn c = if (128 : Int) ≤ (c.toNat : Int) % 256 then (c.toNat : Int) % 256 - 256 else (c.toNat : Int) % 256 := by simp [sgn, IntKind.wrap, IntKind.bits, IntKind.signed]
  rw [e]; split <;> omega
def chkS (h : List UInt8) : Nat → Int
  | 0 => 0
  | k + 1 => chkS h k + sgn (chkB h k)
theorem chkU_le (h : List UInt8) (k : Nat) : chkU h k ≤ 255 * k := by induction k with
  | zero => exact Nat.le_refl _
  | succ k ih => have := (chkB h k).toNat_lt; rw [chkU]; omega
theorem chkS_le (h : List UInt8) (k : Nat) : -(128 * (k : Int)) ≤ chkS h k ∧ chkS h k ≤ 127 * (k : Int) := by induction k with
  | zero => exact ⟨Int.le_refl _, Int.le_refl _⟩
  | succ k ih => have := sgn_b (chkB h k); rw [chkS]; omega
theorem sums_q (h : List UInt8) (hh : h.length = 512) (b4 : Nat) : Quiet Tryz.prog 79 #[pt b4 0] [(b4, oC (bV h) 203)] (.tuple #[.int .i64 (chkU h 512 : Int), .int .i64 (chkS h 512)]) := by
  refine Quiet.of_gives fun g Fr => ?_
  refine Gives.enter Tryz.func79 rfl Tryz.ntmps79 rfl ?_
  refine TC.seq ?_
  refine TC.region ?_
  refine TL.val (Yl.assign rfl) rfl ?_
  refine TL.val (Yl.assign rfl) rfl ?_
  refine TL.next ?_
  refine TC.seq ?_
  refine TC.seq ?_
  refine TC.region ?_
  refine TL.val (Yl.move rfl) rfl ?_
  refine TL.val (Yl.move rfl) rfl ?_
  refine TL.next ?_
  refine TC.block ?_
  refine TC.loopI (σ := Nat) (fun k => [(2, .int .i64 (chkU h k : Int)), (3, .int .i64 (chkS h k)), (6, pt b4 0), (7, .int .i64 (k : Int))]) (fun k => (b4, oC (bV h) 203) :: Fr) (fun k => k ≤ 512) (fun k => 512 - k) 0 ⟨rfl, rfl, rfl, rfl, trivial⟩ (fun _ h => h) (Nat.zero_le _) (fun k hk => ?_)
  have hu := chkU_le h k
  have hs := chkS_le h k
  refine TC.seq ?_
  refine TC.region ?_
  refine TL.val (Yl.lss rfl rfl rfl) rfl ?_
  refine TL.next ?_
  refine TC.seq ?_
  refine TC.cond rfl (fun hc8 => ?_) (fun hc8 => ?_)
  · replace hc8 := of_decide_eq_true hc8
    refine TC.skip_next ?_
    refine TC.seq ?_
    refine TC.block ?_
    refine TC.seq ?_
    refine TC.draws [] _ mixed (by kernel_rfl) rfl (fun _ h => h) ?_
    refine TA.pure 0 rfl (by kernel_rfl) (Yl.move rfl) rfl ?_
    refine TA.pure 1 rfl (by kernel_rfl) (Yl.nilCheckP rfl) rfl ?_
    refine TA.pure 2 rfl (by kernel_rfl) (Yl.idxAddrA (j := k) (o := k) Tryz.underlying203 sz5 rfl rfl rfl (by omega) (by omega)) rfl ?_
    refine TA.load 3 rfl (by kernel_rfl) (Yl.loadB (off := k) Tryz.underlying5 rfl rfl (by repeat (first | exact Foc.head | apply Foc.tail | apply Foc.right)) rfl (byteAt_get (by omega))) rfl ?_
    refine TA.pure 4 rfl (by kernel_rfl) (Yl.assign rfl) rfl ?_
    refine TA.pure 5 rfl (by kernel_rfl) (Yl.assign rfl) rfl ?_
    refine TA.next (by kernel_rfl) ?_
    refine TC.seq ?_
    refine TC.seq ?_
    by_cases hA : 148 ≤ k
    · by_cases hB : k < 156
      · have hx : chkB h k = 32 := if_pos ⟨hA, hB⟩
        refine TC.region ?_
        refine TL.val (Yl.move rfl) rfl ?_
        refine TL.val (Yl.geq rfl rfl (decide_eq_true (by omega))) rfl ?_
        refine TL.val (Yl.move rfl) rfl ?_
        refine TL.yes rfl rfl rfl ?_
        refine TL.val (Yl.move rfl) rfl ?_
        refine TL.yes rfl rfl rfl ?_
        refine TL.val (Yl.lss rfl rfl (decide_eq_true (by omega))) rfl ?_
        refine TL.val (Yl.pickT rfl rfl) rfl ?_
        refine TL.next ?_
        refine TC.yes rfl ?_
        refine TC.region ?_
        refine TL.val (Yl.assign (v := .int .u8 ((32 : UInt8).toNat : Int)) rfl) rfl ?_
        refine TL.next ?_
        refine TC.seq ?_
        have hb8 := (32 : UInt8).toNat_lt
        have hsg := sgn_b 32
        refine TC.region ?_
        refine TL.val (Yl.move rfl) rfl ?_
        refine TL.val (Yl.move rfl) rfl ?_
        refine TL.val (Yl.conv Tryz.underlying5 Tryz.underlying2 rfl (wI_u8 _)) rfl ?_
        refine TL.val (Yl.add rfl rfl (wI (by omega))) rfl ?_
        refine TL.val (Yl.assign rfl) rfl ?_
        refine TL.next ?_
        refine TC.region ?_
        refine TL.val (Yl.move rfl) rfl ?_
        refine TL.val (Yl.move rfl) rfl ?_
        refine TL.val (Yl.conv Tryz.underlying5 Tryz.underlying238 rfl rfl) rfl ?_
        refine TL.val (Yl.conv (r := sgn 32) Tryz.underlying238 Tryz.underlying2 rfl (wI (by show -9223372036854775808 ≤ sgn 32 ∧ sgn 32 ≤ 9223372036854775807; omega))) rfl ?_
        refine TL.val (Yl.add rfl rfl (wI (by omega))) rfl ?_
        refine TL.val (Yl.assign rfl) rfl ?_
        refine TL.next ?_
        refine TC.region ?_
        refine TL.val (Yl.add rfl rfl (wI (by omega))) rfl ?_
        refine TL.val (Yl.move rfl) rfl ?_
        exact TL.done (Inv.again (k + 1) (by omega) (by omega) ⟨(by rw [chkU, hx]; rfl), (by rw [chkS, hx]; rfl), rfl, rfl, trivial⟩ (fun _ h => h))
      · have hx : chkB h k = byteAt h k := if_neg (by omega)
        refine TC.region ?_
        refine TL.val (Yl.move rfl) rfl ?_
        refine TL.val (Yl.geq rfl rfl (decide_eq_true (by omega))) rfl ?_
        refine TL.val (Yl.move rfl) rfl ?_
        refine TL.yes rfl rfl rfl ?_
        refine TL.val (Yl.move rfl) rfl ?_
        refine TL.yes rfl rfl rfl ?_
        refine TL.val (Yl.lss rfl rfl (decide_eq_false (by omega))) rfl ?_
        refine TL.val (Yl.pickT rfl rfl) rfl ?_
        refine TL.next ?_
        refine TC.no rfl ?_
        refine TC.skip_next ?_
        refine TC.seq ?_
        have hb8 := ((byteAt h k) : UInt8).toNat_lt
        have hsg := sgn_b (byteAt h k)
        refine TC.region ?_
        refine TL.val (Yl.move rfl) rfl ?_
        refine TL.val (Yl.move rfl) rfl ?_
        refine TL.val (Yl.conv Tryz.underlying5 Tryz.underlying2 rfl (wI_u8 _)) rfl ?_
        refine TL.val (Yl.add rfl rfl (wI (by omega))) rfl ?_
        refine TL.val (Yl.assign rfl) rfl ?_
        refine TL.next ?_
        refine TC.region ?_
        refine TL.val (Yl.move rfl) rfl ?_
        refine TL.val (Yl.move rfl) rfl ?_
        refine TL.val (Yl.conv Tryz.underlying5 Tryz.underlying238 rfl rfl) rfl ?_
        refine TL.val (Yl.conv (r := sgn (byteAt h k)) Tryz.underlying238 Tryz.underlying2 rfl (wI (by show -9223372036854775808 ≤ sgn (byteAt h k) ∧ sgn (byteAt h k) ≤ 9223372036854775807; omega))) rfl ?_
        refine TL.val (Yl.add rfl rfl (wI (by omega))) rfl ?_
        refine TL.val (Yl.assign rfl) rfl ?_
        refine TL.next ?_
        refine TC.region ?_
        refine TL.val (Yl.add rfl rfl (wI (by omega))) rfl ?_
        refine TL.val (Yl.move rfl) rfl ?_
        exact TL.done (Inv.again (k + 1) (by omega) (by omega) ⟨(by rw [chkU, hx]; rfl), (by rw [chkS, hx]; rfl), rfl, rfl, trivial⟩ (fun _ h => h))
    · have hx : chkB h k = byteAt h k := if_neg (by omega)
      refine TC.region ?_
      refine TL.val (Yl.move rfl) rfl ?_
      refine TL.val (Yl.geq rfl rfl (decide_eq_false (by omega))) rfl ?_
      refine TL.val (Yl.move rfl) rfl ?_
      refine TL.no rfl rfl rfl rfl rfl ?_
      refine TL.no rfl rfl rfl rfl rfl ?_
      refine TL.val (Yl.pickF rfl rfl) rfl ?_
      refine TL.next ?_
      refine TC.no rfl ?_
      refine TC.skip_next ?_
      refine TC.seq ?_
      have hb8 := ((byteAt h k) : UInt8).toNat_lt
      have hsg := sgn_b (byteAt h k)
      refine TC.region ?_
      refine TL.val (Yl.move rfl) rfl ?_
      refine TL.val (Yl.move rfl) rfl ?_
      refine TL.val (Yl.conv Tryz.underlying5 Tryz.underlying2 rfl (wI_u8 _)) rfl ?_
      refine TL.val (Yl.add rfl rfl (wI (by omega))) rfl ?_
      refine TL.val (Yl.assign rfl) rfl ?_
      refine TL.next ?_
      refine TC.region ?_
      refine TL.val (Yl.move rfl) rfl ?_
      refine TL.val (Yl.move rfl) rfl ?_
      refine TL.val (Yl.conv Tryz.underlying5 Tryz.underlying238 rfl rfl) rfl ?_
      refine TL.val (Yl.conv (r := sgn (byteAt h k)) Tryz.underlying238 Tryz.underlying2 rfl (wI (by show -9223372036854775808 ≤ sgn (byteAt h k) ∧ sgn (byteAt h k) ≤ 9223372036854775807; omega))) rfl ?_
      refine TL.val (Yl.add rfl rfl (wI (by omega))) rfl ?_
      refine TL.val (Yl.assign rfl) rfl ?_
      refine TL.next ?_
      refine TC.region ?_
      refine TL.val (Yl.add rfl rfl (wI (by omega))) rfl ?_
      refine TL.val (Yl.move rfl) rfl ?_
      exact TL.done (Inv.again (k + 1) (by omega) (by omega) ⟨(by rw [chkU, hx]; rfl), (by rw [chkS, hx]; rfl), rfl, rfl, trivial⟩ (fun _ h => h))
  · replace hc8 := of_decide_eq_false hc8
    refine TC.exit_next rfl ?_
    refine TC.seq ?_
    obtain rfl : k = 512 := by omega
    refine TC.region ?_
    refine TL.val (Yl.move rfl) rfl ?_
    refine TL.val (Yl.move rfl) rfl ?_
    refine TL.val (Yl.assign rfl) rfl ?_
    refine TL.val (Yl.assign rfl) rfl ?_
    refine TL.next ?_
    exact TC.back2 () rfl rfl rfl rfl (fun _ h => h.sub (by repeat (first | exact List.Sublist.refl _ | exact List.sublist_append_right _ _ | refine List.Sublist.cons_cons _ ?_ | refine List.Sublist.cons _ ?_)))
theorem data48_g {ea : Addr} {d : List UInt8} (R : Rdr ea d) (n : Nat) (hn : n ≤ 1000000000) (p0 l0 : Int) (cs : List Value) (hsz : cs[3]? = some (.int .i64 (n : Int))) (hfl : cs[0]? = some (.int .u8 48)) (bt bh : Nat) (g : World) (Fr : HL) : Gives Tryz.prog 54 #[pt bt 0, pt bh 0] g ((bt, oC [.iface R.t R.v, .int .i64 p0, .iface R.t R.v, .int .i64 l0, .nilIface] 182) :: (bh, oC cs 124) :: Fr) Unit (fun _ => .nilIface)
    (fun _ => (bt, oC [.iface R.t R.v, .int .i64 ((padLen n : Nat) : Int), .iface R.t R.v, .int .i64 ((n : Nat) : Int), .nilIface] 182) :: (bh, oC cs 124) :: Fr) := by
  refine Gives.enter Tryz.func54 rfl Tryz.ntmps54 rfl ?_
  refine TC.seq ?_
  refine TC.region ?_
  refine TL.val (Yl.assign rfl) rfl ?_
  refine TL.next ?_
  refine TC.seq ?_
  refine TC.region ?_
  refine TL.val (Yl.move rfl) rfl ?_
  refine TL.val (Yl.nilCheckP rfl) rfl ?_
  refine TL.val (Yl.fieldAddr (k := 2) (m := 3) (o := 3) Tryz.underlying124 rfl sz2 rfl rfl) rfl ?_
  refine TL.val (Yl.load1 (v := .int .i64 (n : Int)) Tryz.underlying2 rfl rfl (by repeat (first | exact Foc.head | apply Foc.tail | apply Foc.right)) hsz) rfl ?_
  refine TL.val (Yl.assign rfl) rfl ?_
  refine TL.next ?_
  refine TC.seq ?_
  refine TC.seq ?_
  refine TC.region ?_
  refine TL.val (Yl.move rfl) rfl ?_
  refine TL.val (Yl.nilCheckP rfl) rfl ?_
  refine TL.val (Yl.fieldAddr (k := 5) (m := 0) (o := 0) Tryz.underlying124 rfl sz5 rfl rfl) rfl ?_
  refine TL.val (Yl.load1 (v := .int .u8 48) Tryz.underlying5 rfl rfl (by repeat (first | exact Foc.head | apply Foc.tail | apply Foc.right)) hfl) rfl ?_
  refine TL.quiet (Cll.func (xs := [_]) (vs := [_]) Tryz.func70 rfl (by kernel_rfl) ⟨rfl, trivial⟩) rfl (Quiet.none (bare48_q)) ?_
  refine TL.next ?_
  refine TC.no rfl ?_
  refine TC.skip_next ?_
  refine TC.seq ?_
  refine TC.seq ?_
  refine TC.region ?_
  refine TL.val (Yl.move rfl) rfl ?_
  refine TL.val (Yl.lss (b := false) rfl rfl (decide_eq_false (by omega))) rfl ?_
  refine TL.next ?_
  refine TC.no rfl ?_
  refine TC.skip_next ?_
  refine TC.seq ?_
  refine TC.draws [12, 15] _ mixed (by kernel_rfl) rfl (fun _ h => h) ?_
  refine TA.pure 0 rfl (by kernel_rfl) (Yl.move rfl) rfl ?_
  refine TA.pure 1 rfl (by kernel_rfl) (Yl.move rfl) rfl ?_
  refine TA.pure 2 rfl (by kernel_rfl) (Yl.move rfl) rfl ?_
  refine TA.quiet 3 rfl (by kernel_rfl) (Cll.func (xs := [_]) (vs := [_]) Tryz.func71 rfl (by kernel_rfl) ⟨rfl, trivial⟩) rfl (Quiet.none (pad_q n (by omega))) ?_
  refine TA.pure 4 rfl (by kernel_rfl) (Yl.move rfl) rfl ?_
  refine TA.pure 5 rfl (by kernel_rfl) (Yl.nilCheckP rfl) rfl ?_
  refine TA.pure 6 rfl (by kernel_rfl) (Yl.fieldAddr (k := 110) (m := 0) (o := 0) Tryz.underlying182 rfl sz110 rfl rfl) rfl ?_
  refine TA.load 7 rfl (by kernel_rfl) (Yl.load1 (v := .iface R.t R.v) Tryz.underlying110 rfl rfl (by repeat (first | exact Foc.head | apply Foc.tail | apply Foc.right)) rfl) rfl ?_
  refine TA.pure 8 rfl (by kernel_rfl) (Yl.move rfl) rfl ?_
  refine TA.pure 9 rfl (by kernel_rfl) (Yl.build (ixs := [0, 1]) (vs := [.iface R.t R.v, .int .i64 (n : Nat)]) (rs := [.iface R.t R.v, .int .i64 (n : Nat)]) [_, _] st180 rfl ⟨rfl, rfl, trivial⟩ rfl) rfl ?_
  refine TA.pure 10 rfl (by kernel_rfl) (Yl.nilCheckP rfl) rfl ?_
  refine TA.pure 11 rfl (by kernel_rfl) (Yl.fieldAddr (k := 2) (m := 1) (o := 1) Tryz.underlying182 rfl sz2 rfl rfl) rfl ?_
  refine TA.one 12 (by kernel_rfl) ?_
  refine Up.skp rfl rfl (Skp.store1 (cs' := [.iface R.t R.v, .int .i64 ((padLen n : Nat) : Int), .iface R.t R.v, .int .i64 l0, .nilIface]) sz2 rfl rfl rfl (by repeat (first | exact Foc.head | apply Foc.tail | apply Foc.right)) (Nat.le_of_ble_eq_true rfl) rfl) (.inl rfl) ?_
  refine TA.pure 13 rfl (by kernel_rfl) (Yl.nilCheckP rfl) rfl ?_
  refine TA.pure 14 rfl (by kernel_rfl) (Yl.fieldAddr (k := 180) (m := 2) (o := 2) Tryz.underlying182 rfl sz180 rfl rfl) rfl ?_
  refine TA.one 15 (by kernel_rfl) ?_
  refine Up.skp rfl rfl (Skp.storeA (vs := [.iface R.t R.v, .int .i64 (n : Nat)]) (cs' := [.iface R.t R.v, .int .i64 ((padLen n : Nat) : Int), .iface R.t R.v, .int .i64 ((n : Nat) : Int), .nilIface]) sz180 rfl rfl rfl (by repeat (first | exact Foc.head | apply Foc.tail | apply Foc.right)) (Nat.le_of_ble_eq_true rfl) rfl) (.inl rfl) ?_
  refine TA.next (by kernel_rfl) ?_
  refine TC.seq ?_
  refine TC.region ?_
  refine TL.val (Yl.assign rfl) rfl ?_
  refine TL.next ?_
  exact TC.back1 () rfl rfl (fun _ h => h.sub (by repeat (first | exact List.Sublist.refl _ | exact List.sublist_append_right _ _ | refine List.Sublist.cons_cons _ ?_ | refine List.Sublist.cons _ ?_)))
theorem data50_g {ea : Addr} {d : List UInt8} (R : Rdr ea d) (n : Nat) (hn : n ≤ 1000000000) (p0 l0 : Int) (cs : List Value) (hsz : cs[3]? = some (.int .i64 (n : Int))) (hfl : cs[0]? = some (.int .u8 50)) (bt bh : Nat) (g : World) (Fr : HL) : Gives Tryz.prog 54 #[pt bt 0, pt bh 0] g ((bt, oC [.iface R.t R.v, .int .i64 p0, .iface R.t R.v, .int .i64 l0, .nilIface] 182) :: (bh, oC cs 124) :: Fr) Unit (fun _ => .nilIface)
    (fun _ => (bt, oC [.iface R.t R.v, .int .i64 ((padLen 0 : Nat) : Int), .iface R.t R.v, .int .i64 ((0 : Nat) : Int), .nilIface] 182) :: (bh, oC cs 124) :: Fr) := by
  refine Gives.enter Tryz.func54 rfl Tryz.ntmps54 rfl ?_
  refine TC.seq ?_
  refine TC.region ?_
  refine TL.val (Yl.assign rfl) rfl ?_
  refine TL.next ?_
  refine TC.seq ?_
  refine TC.region ?_
  refine TL.val (Yl.move rfl) rfl ?_
  refine TL.val (Yl.nilCheckP rfl) rfl ?_
  refine TL.val (Yl.fieldAddr (k := 2) (m := 3) (o := 3) Tryz.underlying124 rfl sz2 rfl rfl) rfl ?_
  refine TL.val (Yl.load1 (v := .int .i64 (n : Int)) Tryz.underlying2 rfl rfl (by repeat (first | exact Foc.head | apply Foc.tail | apply Foc.right)) hsz) rfl ?_
  refine TL.val (Yl.assign rfl) rfl ?_
  refine TL.next ?_
  refine TC.seq ?_
  refine TC.seq ?_
  refine TC.region ?_
  refine TL.val (Yl.move rfl) rfl ?_
  refine TL.val (Yl.nilCheckP rfl) rfl ?_
  refine TL.val (Yl.fieldAddr (k := 5) (m := 0) (o := 0) Tryz.underlying124 rfl sz5 rfl rfl) rfl ?_
  refine TL.val (Yl.load1 (v := .int .u8 50) Tryz.underlying5 rfl rfl (by repeat (first | exact Foc.head | apply Foc.tail | apply Foc.right)) hfl) rfl ?_
  refine TL.quiet (Cll.func (xs := [_]) (vs := [_]) Tryz.func70 rfl (by kernel_rfl) ⟨rfl, trivial⟩) rfl (Quiet.none (bare50_q)) ?_
  refine TL.next ?_
  refine TC.yes rfl ?_
  refine TC.region ?_
  refine TL.val (Yl.assign rfl) rfl ?_
  refine TL.next ?_
  refine TC.seq ?_
  refine TC.seq ?_
  refine TC.region ?_
  refine TL.val (Yl.move rfl) rfl ?_
  refine TL.val (Yl.lss (b := false) rfl rfl rfl) rfl ?_
  refine TL.next ?_
  refine TC.no rfl ?_
  refine TC.skip_next ?_
  refine TC.seq ?_
  refine TC.draws [12, 15] _ mixed (by kernel_rfl) rfl (fun _ h => h) ?_
  refine TA.pure 0 rfl (by kernel_rfl) (Yl.move rfl) rfl ?_
  refine TA.pure 1 rfl (by kernel_rfl) (Yl.move rfl) rfl ?_
  refine TA.pure 2 rfl (by kernel_rfl) (Yl.move rfl) rfl ?_
  refine TA.quiet 3 rfl (by kernel_rfl) (Cll.func (xs := [_]) (vs := [_]) Tryz.func71 rfl (by kernel_rfl) ⟨rfl, trivial⟩) rfl (Quiet.none (pad_q 0 (by omega))) ?_
  refine TA.pure 4 rfl (by kernel_rfl) (Yl.move rfl) rfl ?_
  refine TA.pure 5 rfl (by kernel_rfl) (Yl.nilCheckP rfl) rfl ?_
  refine TA.pure 6 rfl (by kernel_rfl) (Yl.fieldAddr (k := 110) (m := 0) (o := 0) Tryz.underlying182 rfl sz110 rfl rfl) rfl ?_
  refine TA.load 7 rfl (by kernel_rfl) (Yl.load1 (v := .iface R.t R.v) Tryz.underlying110 rfl rfl (by repeat (first | exact Foc.head | apply Foc.tail | apply Foc.right)) rfl) rfl ?_
  refine TA.pure 8 rfl (by kernel_rfl) (Yl.move rfl) rfl ?_
  refine TA.pure 9 rfl (by kernel_rfl) (Yl.build (ixs := [0, 1]) (vs := [.iface R.t R.v, .int .i64 (0 : Nat)]) (rs := [.iface R.t R.v, .int .i64 (0 : Nat)]) [_, _] st180 rfl ⟨rfl, rfl, trivial⟩ rfl) rfl ?_
  refine TA.pure 10 rfl (by kernel_rfl) (Yl.nilCheckP rfl) rfl ?_
  refine TA.pure 11 rfl (by kernel_rfl) (Yl.fieldAddr (k := 2) (m := 1) (o := 1) Tryz.underlying182 rfl sz2 rfl rfl) rfl ?_
  refine TA.one 12 (by kernel_rfl) ?_
  refine Up.skp rfl rfl (Skp.store1 (cs' := [.iface R.t R.v, .int .i64 ((padLen 0 : Nat) : Int), .iface R.t R.v, .int .i64 l0, .nilIface]) sz2 rfl rfl rfl (by repeat (first | exact Foc.head | apply Foc.tail | apply Foc.right)) (Nat.le_of_ble_eq_true rfl) rfl) (.inl rfl) ?_
  refine TA.pure 13 rfl (by kernel_rfl) (Yl.nilCheckP rfl) rfl ?_
  refine TA.pure 14 rfl (by kernel_rfl) (Yl.fieldAddr (k := 180) (m := 2) (o := 2) Tryz.underlying182 rfl sz180 rfl rfl) rfl ?_
  refine TA.one 15 (by kernel_rfl) ?_
  refine Up.skp rfl rfl (Skp.storeA (vs := [.iface R.t R.v, .int .i64 (0 : Nat)]) (cs' := [.iface R.t R.v, .int .i64 ((padLen 0 : Nat) : Int), .iface R.t R.v, .int .i64 ((0 : Nat) : Int), .nilIface]) sz180 rfl rfl rfl (by repeat (first | exact Foc.head | apply Foc.tail | apply Foc.right)) (Nat.le_of_ble_eq_true rfl) rfl) (.inl rfl) ?_
  refine TA.next (by kernel_rfl) ?_
  refine TC.seq ?_
  refine TC.region ?_
  refine TL.val (Yl.assign rfl) rfl ?_
  refine TL.next ?_
  exact TC.back1 () rfl rfl (fun _ h => h.sub (by repeat (first | exact List.Sublist.refl _ | exact List.sublist_append_right _ _ | refine List.Sublist.cons_cons _ ?_ | refine List.Sublist.cons _ ?_)))
theorem data53_g {ea : Addr} {d : List UInt8} (R : Rdr ea d) (n : Nat) (hn : n ≤ 1000000000) (p0 l0 : Int) (cs : List Value) (hsz : cs[3]? = some (.int .i64 (n : Int))) (hfl : cs[0]? = some (.int .u8 53)) (bt bh : Nat) (g : World) (Fr : HL) : Gives Tryz.prog 54 #[pt bt 0, pt bh 0] g ((bt, oC [.iface R.t R.v, .int .i64 p0, .iface R.t R.v, .int .i64 l0, .nilIface] 182) :: (bh, oC cs 124) :: Fr) Unit (fun _ => .nilIface)
    (fun _ => (bt, oC [.iface R.t R.v, .int .i64 ((padLen 0 : Nat) : Int), .iface R.t R.v, .int .i64 ((0 : Nat) : Int), .nilIface] 182) :: (bh, oC cs 124) :: Fr) := by
  refine Gives.enter Tryz.func54 rfl Tryz.ntmps54 rfl ?_
  refine TC.seq ?_
  refine TC.region ?_
  refine TL.val (Yl.assign rfl) rfl ?_
  refine TL.next ?_
  refine TC.seq ?_
  refine TC.region ?_
  refine TL.val (Yl.move rfl) rfl ?_
  refine TL.val (Yl.nilCheckP rfl) rfl ?_
  refine TL.val (Yl.fieldAddr (k := 2) (m := 3) (o := 3) Tryz.underlying124 rfl sz2 rfl rfl) rfl ?_
  refine TL.val (Yl.load1 (v := .int .i64 (n : Int)) Tryz.underlying2 rfl rfl (by repeat (first | exact Foc.head | apply Foc.tail | apply Foc.right)) hsz) rfl ?_
  refine TL.val (Yl.assign rfl) rfl ?_
  refine TL.next ?_
  refine TC.seq ?_
  refine TC.seq ?_
  refine TC.region ?_
  refine TL.val (Yl.move rfl) rfl ?_
  refine TL.val (Yl.nilCheckP rfl) rfl ?_
  refine TL.val (Yl.fieldAddr (k := 5) (m := 0) (o := 0) Tryz.underlying124 rfl sz5 rfl rfl) rfl ?_
  refine TL.val (Yl.load1 (v := .int .u8 53) Tryz.underlying5 rfl rfl (by repeat (first | exact Foc.head | apply Foc.tail | apply Foc.right)) hfl) rfl ?_
  refine TL.quiet (Cll.func (xs := [_]) (vs := [_]) Tryz.func70 rfl (by kernel_rfl) ⟨rfl, trivial⟩) rfl (Quiet.none (bare53_q)) ?_
  refine TL.next ?_
  refine TC.yes rfl ?_
  refine TC.region ?_
  refine TL.val (Yl.assign rfl) rfl ?_
  refine TL.next ?_
  refine TC.seq ?_
  refine TC.seq ?_
  refine TC.region ?_
  refine TL.val (Yl.move rfl) rfl ?_
  refine TL.val (Yl.lss (b := false) rfl rfl rfl) rfl ?_
  refine TL.next ?_
  refine TC.no rfl ?_
  refine TC.skip_next ?_
  refine TC.seq ?_
  refine TC.draws [12, 15] _ mixed (by kernel_rfl) rfl (fun _ h => h) ?_
  refine TA.pure 0 rfl (by kernel_rfl) (Yl.move rfl) rfl ?_
  refine TA.pure 1 rfl (by kernel_rfl) (Yl.move rfl) rfl ?_
  refine TA.pure 2 rfl (by kernel_rfl) (Yl.move rfl) rfl ?_
  refine TA.quiet 3 rfl (by kernel_rfl) (Cll.func (xs := [_]) (vs := [_]) Tryz.func71 rfl (by kernel_rfl) ⟨rfl, trivial⟩) rfl (Quiet.none (pad_q 0 (by omega))) ?_
  refine TA.pure 4 rfl (by kernel_rfl) (Yl.move rfl) rfl ?_
  refine TA.pure 5 rfl (by kernel_rfl) (Yl.nilCheckP rfl) rfl ?_
  refine TA.pure 6 rfl (by kernel_rfl) (Yl.fieldAddr (k := 110) (m := 0) (o := 0) Tryz.underlying182 rfl sz110 rfl rfl) rfl ?_
  refine TA.load 7 rfl (by kernel_rfl) (Yl.load1 (v := .iface R.t R.v) Tryz.underlying110 rfl rfl (by repeat (first | exact Foc.head | apply Foc.tail | apply Foc.right)) rfl) rfl ?_
  refine TA.pure 8 rfl (by kernel_rfl) (Yl.move rfl) rfl ?_
  refine TA.pure 9 rfl (by kernel_rfl) (Yl.build (ixs := [0, 1]) (vs := [.iface R.t R.v, .int .i64 (0 : Nat)]) (rs := [.iface R.t R.v, .int .i64 (0 : Nat)]) [_, _] st180 rfl ⟨rfl, rfl, trivial⟩ rfl) rfl ?_
  refine TA.pure 10 rfl (by kernel_rfl) (Yl.nilCheckP rfl) rfl ?_
  refine TA.pure 11 rfl (by kernel_rfl) (Yl.fieldAddr (k := 2) (m := 1) (o := 1) Tryz.underlying182 rfl sz2 rfl rfl) rfl ?_
  refine TA.one 12 (by kernel_rfl) ?_
  refine Up.skp rfl rfl (Skp.store1 (cs' := [.iface R.t R.v, .int .i64 ((padLen 0 : Nat) : Int), .iface R.t R.v, .int .i64 l0, .nilIface]) sz2 rfl rfl rfl (by repeat (first | exact Foc.head | apply Foc.tail | apply Foc.right)) (Nat.le_of_ble_eq_true rfl) rfl) (.inl rfl) ?_
  refine TA.pure 13 rfl (by kernel_rfl) (Yl.nilCheckP rfl) rfl ?_
  refine TA.pure 14 rfl (by kernel_rfl) (Yl.fieldAddr (k := 180) (m := 2) (o := 2) Tryz.underlying182 rfl sz180 rfl rfl) rfl ?_
  refine TA.one 15 (by kernel_rfl) ?_
  refine Up.skp rfl rfl (Skp.storeA (vs := [.iface R.t R.v, .int .i64 (0 : Nat)]) (cs' := [.iface R.t R.v, .int .i64 ((padLen 0 : Nat) : Int), .iface R.t R.v, .int .i64 ((0 : Nat) : Int), .nilIface]) sz180 rfl rfl rfl (by repeat (first | exact Foc.head | apply Foc.tail | apply Foc.right)) (Nat.le_of_ble_eq_true rfl) rfl) (.inl rfl) ?_
  refine TA.next (by kernel_rfl) ?_
  refine TC.seq ?_
  refine TC.region ?_
  refine TL.val (Yl.assign rfl) rfl ?_
  refine TL.next ?_
  exact TC.back1 () rfl rfl (fun _ h => h.sub (by repeat (first | exact List.Sublist.refl _ | exact List.sublist_append_right _ _ | refine List.Sublist.cons_cons _ ?_ | refine List.Sublist.cons _ ?_)))
end Go.Proofs.YtlhncphipfkkjaaGreatDoor

namespace Go.Proofs.YtlhncphipfkkjaaGreatDoor
open Go
/-- digits in base 8, read -/
def octV (l : List UInt8) : Nat := l.foldl (fun a c => a * 8 + (c.toNat - 48)) 0
def isOct (l : List UInt8) : Prop := ∀ c ∈ l, 48 ≤ c.toNat ∧ c.toNat ≤ 55
theorem octV_snoc {l : List UInt8} {k : Nat} {c : UInt8} (h : l[k]? = some c) : octV (l.take (k + 1)) = octV (l.take k) * 8 + (c.toNat - 48) := by
  obtain ⟨hlt, rfl⟩ := List.getElem?_eq_some_iff.1 h
  unfold octV
  rw [List.take_succ_eq_append_getElem hlt, List.foldl_append]; rfl
theorem octV_lt {l : List UInt8} (h : isOct l) (k : Nat) : octV (l.take k) < 8 ^ k := by
  induction k with
  | zero => simp [octV]
  | succ k ih =>
    cases hc : l[k]? with
    | none => 
      rw [List.take_of_length_le (by rw [List.getElem?_eq_none_iff] at hc; omega)]
      rw [List.take_of_length_le (by rw [List.getElem?_eq_none_iff] at hc; omega)] at ih
      rw [Nat.pow_succ]; omega
    | some c =>
      have := h c (List.mem_of_getElem? hc)
      rw [octV_snoc hc, Nat.pow_succ]; omega
theorem parse_q (l : List UInt8) (ho : isOct l) (hne : l ≠ []) (hl : l.length ≤ 20) : Quiet Tryz.prog 83 #[vS l, .int .i64 8, .int .i64 64] [] (.tuple #[.int .u64 (octV l : Int), .nilIface]) := by
  refine Quiet.of_gives fun g Fr => ?_
  refine Gives.enter Tryz.func83 rfl Tryz.ntmps83 rfl ?_
  have hb20 : ∀ k, k ≤ 20 → octV (l.take k) < 1152921504606846976 := fun k hk => Nat.lt_of_lt_of_le (octV_lt ho k) (Nat.pow_le_pow_right (n := 8) (by decide) hk)
  refine TC.seq ?_
  refine TC.region ?_
  refine TL.val (Yl.assign rfl) rfl ?_
  refine TL.val (Yl.assign rfl) rfl ?_
  refine TL.next ?_
  refine TC.seq ?_
  refine TC.seq ?_
  refine TC.region ?_
  refine TL.val (Yl.move rfl) rfl ?_
  refine TL.val (Yl.eqlS (r := false) rfl rfl (decide_eq_false hne)) rfl ?_
  refine TL.next ?_
  refine TC.no rfl ?_
  refine TC.skip_next ?_
  refine TC.seq ?_
  refine TC.region ?_
  refine TL.val (Yl.move rfl) rfl ?_
  refine TL.val (Yl.eql (b := false) rfl rfl rfl) rfl ?_
  refine TL.val (Yl.assign rfl) rfl ?_
  refine TL.next ?_
  refine TC.seq ?_
  refine TC.region ?_
  refine TL.val (Yl.move rfl) rfl ?_
  refine TL.val (Yl.assign rfl) rfl ?_
  refine TL.next ?_
  refine TC.seq ?_
  refine TC.block ?_
  refine TC.seq ?_
  refine TC.region ?_
  refine TL.val (Yl.move rfl) rfl ?_
  refine TL.val (Yl.leq (b := true) rfl rfl rfl) rfl ?_
  refine TL.val (Yl.move rfl) rfl ?_
  refine TL.yes rfl rfl rfl ?_
  refine TL.val (Yl.move rfl) rfl ?_
  refine TL.yes rfl rfl rfl ?_
  refine TL.val (Yl.leq (b := true) rfl rfl rfl) rfl ?_
  refine TL.val (Yl.pickT rfl rfl) rfl ?_
  refine TL.val (Yl.assign rfl) rfl ?_
  refine TL.next ?_
  refine TC.yes rfl ?_
  refine TC.skip_next ?_
  refine TC.seq ?_
  refine TC.seq ?_
  refine TC.region ?_
  refine TL.val (Yl.move rfl) rfl ?_
  refine TL.val (Yl.eql (b := false) rfl rfl rfl) rfl ?_
  refine TL.next ?_
  refine TC.no rfl ?_
  refine TC.seq ?_
  refine TC.region ?_
  refine TL.val (Yl.move rfl) rfl ?_
  refine TL.val (Yl.lss (b := false) rfl rfl rfl) rfl ?_
  refine TL.val (Yl.move rfl) rfl ?_
  refine TL.yes rfl rfl rfl ?_
  refine TL.val (Yl.move rfl) rfl ?_
  refine TL.yes rfl rfl rfl ?_
  refine TL.val (Yl.gtr (b := false) rfl rfl rfl) rfl ?_
  refine TL.val (Yl.pickF rfl rfl) rfl ?_
  refine TL.next ?_
  refine TC.no rfl ?_
  refine TC.skip_next ?_
  refine TC.seq ?_
  refine TC.region ?_
  refine TL.val (Yl.assign rfl) rfl ?_
  refine TL.next ?_
  refine TC.seq ?_
  refine TC.seq ?_
  refine TC.region ?_
  refine TL.val (Yl.move rfl) rfl ?_
  refine TL.next ?_
  refine TC.block ?_
  refine TC.seq ?_
  refine TC.region ?_
  refine TL.val (Yl.eql (b := false) rfl rfl rfl) rfl ?_
  refine TL.val (Yl.assign rfl) rfl ?_
  refine TL.next ?_
  refine TC.no rfl ?_
  refine TC.seq ?_
  refine TC.region ?_
  refine TL.val (Yl.eql (b := false) rfl rfl rfl) rfl ?_
  refine TL.val (Yl.assign rfl) rfl ?_
  refine TL.next ?_
  refine TC.no rfl ?_
  refine TC.region ?_
  refine TL.val (Yl.move rfl) rfl ?_
  refine TL.val (Yl.conv (r := 8) Tryz.underlying3 Tryz.underlying167 rfl rfl) rfl ?_
  refine TL.val (Yl.quo (r := 2305843009213693951) rfl rfl (by omega) (by omega) rfl) rfl ?_
  refine TL.val (Yl.add (r := 2305843009213693952) rfl rfl rfl) rfl ?_
  refine TL.val (Yl.assign rfl) rfl ?_
  refine TL.next ?_
  refine TC.seq ?_
  refine TC.region ?_
  refine TL.val (Yl.move rfl) rfl ?_
  refine TL.val (Yl.conv (r := 64) Tryz.underlying3 Tryz.underlying39 rfl rfl) rfl ?_
  refine TL.val (Yl.shl64 (a := 1) (c := 64) rfl rfl) rfl ?_
  refine TL.val (Yl.sub (r := 18446744073709551615) rfl rfl rfl) rfl ?_
  refine TL.val (Yl.assign rfl) rfl ?_
  refine TL.next ?_
  refine TC.seq ?_
  refine TC.region ?_
  refine TL.val (Yl.assign rfl) rfl ?_
  refine TL.next ?_
  refine TC.seq ?_
  refine TC.region ?_
  refine TL.val (Yl.assign rfl) rfl ?_
  refine TL.next ?_
  refine TC.seq ?_
  refine TC.seq ?_
  refine TC.region ?_
  refine TL.val (Yl.move rfl) rfl ?_
  refine TL.eff (Eff.bytes Tryz.underlying9 Tryz.underlying40 Tryz.underlying5 rfl) rfl fun q => ?_
  rw [bV_zeros, ← bV_append]
  refine TL.val (Yl.lenL Tryz.underlying40 rfl) rfl ?_
  refine TL.val (Yl.move rfl) rfl ?_
  refine TL.next ?_
  refine TC.block ?_
  refine TC.loopI (σ := Nat) (fun k => [(1, .int .i64 8), (8, .bool false), (10, .int .u64 2305843009213693952), (11, .int .u64 18446744073709551615), (12, .bool false), (13, .int .u64 (octV (l.take k) : Int)), (99, sl q.1 0 l.length (l.length + q.2)), (100, .int .i64 (l.length : Int)), (101, .int .i64 (k : Int))]) (fun k => (q.1, .cells ⟨bV (l ++ List.replicate q.2 0)⟩ 5 (l.length + q.2, l.length + q.2 + 1)) :: Fr) (fun k => k ≤ l.length) (fun k => l.length - k) 0 ⟨rfl, rfl, rfl, rfl, rfl, rfl, rfl, rfl, rfl, trivial⟩ (fun _ h => h) (Nat.zero_le _) (fun k hk => ?_)
  refine TC.seq ?_
  refine TC.region ?_
  refine TL.val (Yl.lss rfl rfl rfl) rfl ?_
  refine TL.next ?_
  refine TC.seq ?_
  refine TC.cond rfl (fun hc102 => ?_) (fun hc102 => ?_)
  · replace hc102 := of_decide_eq_true hc102
    refine TC.skip_next ?_
    refine TC.seq ?_
    refine TC.block ?_
    refine TC.seq ?_
    obtain ⟨c, hc⟩ : ∃ c, l[k]? = some c := ⟨l[k]'(by omega), List.getElem?_eq_getElem (by omega)⟩
    have hcc := ho c (List.mem_of_getElem? hc)
    have hb := hb20 k (by omega)
    have hc2 : (l ++ List.replicate q.2 0)[k]? = some c := (List.getElem?_append_left (by omega)).trans hc
    refine TC.region ?_
    refine TL.val (Yl.idxAddrS (j := k) (o := k) Tryz.underlying40 sz5 rfl rfl rfl (by omega) (by omega)) rfl ?_
    refine TL.val (Yl.loadB (off := k) Tryz.underlying5 rfl rfl (by repeat (first | exact Foc.head | apply Foc.tail | apply Foc.right)) rfl hc2) rfl ?_
    refine TL.val (Yl.assign rfl) rfl ?_
    refine TL.next ?_
    refine TC.seq ?_
    refine TC.region ?_
    refine TL.val (Yl.assign rfl) rfl ?_
    refine TL.next ?_
    refine TC.seq ?_
    refine TC.block ?_
    refine TC.seq ?_
    refine TC.region ?_
    refine TL.val (Yl.move rfl) rfl ?_
    refine TL.val (Yl.eql rfl rfl (decide_eq_false (by omega))) rfl ?_
    refine TL.val (Yl.move rfl) rfl ?_
    refine TL.no rfl rfl rfl rfl rfl ?_
    refine TL.val (Yl.pickF rfl rfl) rfl ?_
    refine TL.val (Yl.assign rfl) rfl ?_
    refine TL.next ?_
    refine TC.no rfl ?_
    refine TC.seq ?_
    refine TC.region ?_
    refine TL.val (Yl.move rfl) rfl ?_
    refine TL.val (Yl.leq rfl rfl (decide_eq_true (by omega))) rfl ?_
    refine TL.val (Yl.move rfl) rfl ?_
    refine TL.yes rfl rfl rfl ?_
    refine TL.val (Yl.move rfl) rfl ?_
    refine TL.yes rfl rfl rfl ?_
    refine TL.val (Yl.leq rfl rfl (decide_eq_true (by omega))) rfl ?_
    refine TL.val (Yl.pickT rfl rfl) rfl ?_
    refine TL.val (Yl.assign rfl) rfl ?_
    refine TL.next ?_
    refine TC.yes rfl ?_
    refine TC.region ?_
    refine TL.val (Yl.move rfl) rfl ?_
    refine TL.val (Yl.sub (r := ((c.toNat - 48 : Nat) : Int)) rfl rfl (by rw [wrap_u8]; omega)) rfl ?_
    refine TL.val (Yl.assign rfl) rfl ?_
    refine TL.next ?_
    refine TC.seq ?_
    refine TC.seq ?_
    refine TC.region ?_
    refine TL.val (Yl.move rfl) rfl ?_
    refine TL.val (Yl.move rfl) rfl ?_
    refine TL.val (Yl.conv (r := 8) Tryz.underlying3 Tryz.underlying5 rfl rfl) rfl ?_
    refine TL.val (Yl.geq rfl rfl (decide_eq_false (by omega))) rfl ?_
    refine TL.next ?_
    refine TC.no rfl ?_
    refine TC.skip_next ?_
    refine TC.seq ?_
    refine TC.seq ?_
    refine TC.region ?_
    refine TL.val (Yl.move rfl) rfl ?_
    refine TL.val (Yl.move rfl) rfl ?_
    refine TL.val (Yl.geq rfl rfl (decide_eq_false (by omega))) rfl ?_
    refine TL.next ?_
    refine TC.no rfl ?_
    refine TC.skip_next ?_
    refine TC.seq ?_
    refine TC.region ?_
    refine TL.val (Yl.move rfl) rfl ?_
    refine TL.val (Yl.move rfl) rfl ?_
    refine TL.val (Yl.conv (r := 8) Tryz.underlying3 Tryz.underlying167 rfl rfl) rfl ?_
    refine TL.val (Yl.mul rfl rfl (wU64 (by omega))) rfl ?_
    refine TL.val (Yl.assign rfl) rfl ?_
    refine TL.next ?_
    refine TC.seq ?_
    refine TC.region ?_
    refine TL.val (Yl.move rfl) rfl ?_
    refine TL.val (Yl.move rfl) rfl ?_
    refine TL.val (Yl.conv (r := ((c.toNat - 48 : Nat) : Int)) Tryz.underlying5 Tryz.underlying167 rfl (wU64 (by omega))) rfl ?_
    refine TL.val (Yl.add rfl rfl (wU64 (by omega))) rfl ?_
    refine TL.val (Yl.assign rfl) rfl ?_
    refine TL.next ?_
    refine TC.seq ?_
    refine TC.seq ?_
    refine TC.region ?_
    refine TL.val (Yl.move rfl) rfl ?_
    refine TL.val (Yl.move rfl) rfl ?_
    refine TL.val (Yl.lss rfl rfl (decide_eq_false (by omega))) rfl ?_
    refine TL.val (Yl.move rfl) rfl ?_
    refine TL.yes rfl rfl rfl ?_
    refine TL.val (Yl.move rfl) rfl ?_
    refine TL.yes rfl rfl rfl ?_
    refine TL.val (Yl.move rfl) rfl ?_
    refine TL.yes rfl rfl rfl ?_
    refine TL.val (Yl.gtr rfl rfl (decide_eq_false (by omega))) rfl ?_
    refine TL.val (Yl.pickF rfl rfl) rfl ?_
    refine TL.next ?_
    refine TC.no rfl ?_
    refine TC.skip_next ?_
    refine TC.region ?_
    refine TL.val (Yl.move rfl) rfl ?_
    refine TL.val (Yl.assign rfl) rfl ?_
    refine TL.next ?_
    refine TC.region ?_
    refine TL.val (Yl.add rfl rfl (wI (by omega))) rfl ?_
    refine TL.val (Yl.move rfl) rfl ?_
    exact TL.done (Inv.again (k + 1) (by omega) (by omega) ⟨rfl, rfl, rfl, rfl, rfl, (congrArg (fun z => some (Value.int .u64 z)) (by rw [octV_snoc hc]; omega)), rfl, rfl, rfl, trivial⟩ (fun _ h => h))
  · replace hc102 := of_decide_eq_false hc102
    refine TC.exit_next rfl ?_
    refine TC.seq ?_
    refine TC.seq ?_
    obtain rfl : k = l.length := by omega
    rw [List.take_length]
    refine TC.region ?_
    refine TL.val (Yl.move rfl) rfl ?_
    refine TL.val (Yl.move rfl) rfl ?_
    refine TL.no rfl rfl rfl rfl rfl ?_
    refine TL.no rfl rfl rfl rfl rfl ?_
    refine TL.no rfl rfl rfl rfl rfl ?_
    refine TL.val (Yl.pickF rfl rfl) rfl ?_
    refine TL.next ?_
    refine TC.no rfl ?_
    refine TC.skip_next ?_
    refine TC.seq ?_
    refine TC.region ?_
    refine TL.val (Yl.move rfl) rfl ?_
    refine TL.val (Yl.assign rfl) rfl ?_
    refine TL.val (Yl.assign rfl) rfl ?_
    refine TL.next ?_
    exact TC.back2 () rfl rfl rfl rfl (fun _ h => h.sub (by repeat (first | exact List.Sublist.refl _ | exact List.sublist_append_right _ _ | refine List.Sublist.cons_cons _ ?_ | refine List.Sublist.cons _ ?_)))
theorem parseUint_q (l : List UInt8) (ho : isOct l) (hne : l ≠ []) (hl : l.length ≤ 20) : Quiet Tryz.prog 82 #[vS l, .int .i64 8, .int .i64 64] [] (.tuple #[.int .u64 (octV l : Int), .nilIface]) := by
  refine Quiet.of_gives fun g Fr => ?_
  refine Gives.enter Tryz.func82 rfl Tryz.ntmps82 rfl ?_
  refine TC.seq ?_
  refine TC.region ?_
  refine TL.val (Yl.assign rfl) rfl ?_
  refine TL.val (Yl.assign rfl) rfl ?_
  refine TL.next ?_
  refine TC.seq ?_
  refine TC.region ?_
  refine TL.val (Yl.move rfl) rfl ?_
  refine TL.val (Yl.move rfl) rfl ?_
  refine TL.val (Yl.move rfl) rfl ?_
  refine TL.quiet (Cll.func (xs := [_, _, _]) (vs := [_, _, _]) Tryz.func83 rfl (by kernel_rfl) ⟨rfl, rfl, rfl, trivial⟩) rfl (Quiet.none (parse_q l ho hne hl)) ?_
  refine TL.val (Yl.move rfl) rfl ?_
  refine TL.val (Yl.extract rfl rfl) rfl ?_
  refine TL.val (Yl.extract rfl rfl) rfl ?_
  refine TL.val (Yl.assign rfl) rfl ?_
  refine TL.val (Yl.assign rfl) rfl ?_
  refine TL.next ?_
  refine TC.seq ?_
  refine TC.seq ?_
  refine TC.region ?_
  refine TL.val (Yl.move rfl) rfl ?_
  refine TL.val (Yl.neqNilN Tryz.underlying58 rfl rfl) rfl ?_
  refine TL.next ?_
  refine TC.no rfl ?_
  refine TC.skip_next ?_
  refine TC.seq ?_
  refine TC.region ?_
  refine TL.val (Yl.move rfl) rfl ?_
  refine TL.val (Yl.assign rfl) rfl ?_
  refine TL.val (Yl.assign rfl) rfl ?_
  refine TL.next ?_
  exact TC.back2 () rfl rfl rfl rfl (fun _ h => h.sub (by repeat (first | exact List.Sublist.refl _ | exact List.sublist_append_right _ _ | refine List.Sublist.cons_cons _ ?_ | refine List.Sublist.cons _ ?_)))
end Go.Proofs.YtlhncphipfkkjaaGreatDoor

namespace Go.Proofs.YtlhncphipfkkjaaGreatDoor
open Go
theorem cut0_oct : ∀ (l : List UInt8), isOct l → cut0 l = l
  | [], _ => rfl
  | c :: r, h => by
    have hc := h c List.mem_cons_self
    have : c ≠ 0 := fun e => by subst e; simp at hc
    unfold cut0
    rw [if_neg this, cut0_oct r (fun x hx => h x (List.mem_cons_of_mem _ hx))]
def isTrail (l : List UInt8) : Prop := ∀ c ∈ l, c.toNat = 32 ∨ c.toNat = 0
theorem octal_q {te : TypeId} (l ds tr : List UInt8) (b off n cap : Nat) (fr : Nat × Nat) (hx : (l.drop off).take n = ds ++ tr) (hn : ds.length + tr.length = n) (hcap : n ≤ cap) (hle : off + n ≤ l.length) (hn2 : n ≤ 1000) (ho : isOct ds) (hne : ds ≠ []) (hl : ds.length ≤ 20) (ht : isTrail tr) : Quiet Tryz.prog 78 #[sl b off n cap] [(b, .cells ⟨bV l⟩ te fr)] (.tuple #[.int .i64 (octV ds : Int), .bool true]) := by
  refine Quiet.of_gives fun g Fr => ?_
  refine Gives.enter Tryz.func78 rfl Tryz.ntmps78 rfl ?_
  have hxl : (ds ++ tr).length = ds.length + tr.length := List.length_append
  have hget : ∀ k c, (ds ++ tr)[k]? = some c → l[off + k]? = some c := fun k c h => by
    have hk := (List.getElem?_eq_some_iff.1 h).1
    rw [← hx, List.getElem?_take, if_pos (by omega), List.getElem?_drop] at h
    exact h
  have hd0 : 0 < ds.length := List.length_pos_iff.2 hne
  obtain ⟨c0, hc0⟩ : ∃ c, ds[0]? = some c := ⟨ds[0]'hd0, List.getElem?_eq_getElem hd0⟩
  have hcc0 := ho c0 (List.mem_of_getElem? hc0)
  have hg0 := hget 0 c0 ((List.getElem?_append_left hd0).trans hc0)
  have hadv : adv off cap 0 1 = off := by unfold adv; split <;> simp
  have hoct : octV ds < 1152921504606846976 := by
    have := octV_lt ho ds.length
    rw [List.take_length] at this
    exact Nat.lt_of_lt_of_le this (Nat.pow_le_pow_right (n := 8) (by decide) hl)
  refine TC.seq ?_
  refine TC.region ?_
  refine TL.val (Yl.assign rfl) rfl ?_
  refine TL.val (Yl.assign rfl) rfl ?_
  refine TL.next ?_
  refine TC.seq ?_
  refine TC.block ?_
  refine TC.loopI (σ := Unit) (fun u => [(0, sl b off n cap)]) (fun u => (b, .cells ⟨bV l⟩ te fr) :: Fr) (fun u => True) (fun u => 0) () ⟨rfl, trivial⟩ (fun _ h => h) trivial (fun u hu => ?_)
  refine TC.seq ?_
  refine TC.seq ?_
  refine TC.region ?_
  refine TL.val (Yl.move rfl) rfl ?_
  refine TL.val (Yl.lenL Tryz.underlying40 rfl) rfl ?_
  refine TL.val (Yl.gtr rfl rfl (decide_eq_true (by omega))) rfl ?_
  refine TL.val (Yl.move rfl) rfl ?_
  refine TL.yes rfl rfl rfl ?_
  refine TL.val (Yl.move rfl) rfl ?_
  refine TL.yes rfl rfl rfl ?_
  refine TL.val (Yl.idxAddrS (j := 0) (o := off + 0) Tryz.underlying40 sz5 rfl rfl rfl (by omega) (by omega)) rfl ?_
  refine TL.yes rfl rfl rfl ?_
  refine TL.val (Yl.loadB (off := off + 0) Tryz.underlying5 rfl rfl (by repeat (first | exact Foc.head | apply Foc.tail | apply Foc.right)) rfl hg0) rfl ?_
  refine TL.yes rfl rfl rfl ?_
  refine TL.val (Yl.eql rfl rfl (decide_eq_false (by omega))) rfl ?_
  refine TL.yes rfl rfl rfl ?_
  refine TL.val (Yl.move rfl) rfl ?_
  refine TL.yes rfl rfl rfl ?_
  refine TL.val (Yl.move rfl) rfl ?_
  refine TL.yes rfl rfl rfl ?_
  refine TL.val (Yl.idxAddrS (j := 0) (o := off + 0) Tryz.underlying40 sz5 rfl rfl rfl (by omega) (by omega)) rfl ?_
  refine TL.yes rfl rfl rfl ?_
  refine TL.val (Yl.loadB (off := off + 0) Tryz.underlying5 rfl rfl (by repeat (first | exact Foc.head | apply Foc.tail | apply Foc.right)) rfl hg0) rfl ?_
  refine TL.yes rfl rfl rfl ?_
  refine TL.val (Yl.eql rfl rfl (decide_eq_false (by omega))) rfl ?_
  refine TL.yes rfl rfl rfl ?_
  refine TL.val (Yl.pickF rfl rfl) rfl ?_
  refine TL.val (Yl.pickT rfl rfl) rfl ?_
  refine TL.next ?_
  refine TC.no rfl ?_
  refine TC.exit_next rfl ?_
  refine TC.seq ?_
  refine TC.block ?_
  refine TC.loopI (σ := Nat) (fun j => [(0, sl b off (n - j) cap)]) (fun j => (b, .cells ⟨bV l⟩ te fr) :: Fr) (fun j => j ≤ tr.length) (fun j => tr.length - j) 0 ⟨rfl, trivial⟩ (fun _ h => h) (Nat.zero_le _) (fun j hj => ?_)
  refine TC.seq ?_
  refine TC.seq ?_
  obtain ⟨c, hc⟩ : ∃ c, (ds ++ tr)[n - j - 1]? = some c := ⟨(ds ++ tr)[n - j - 1]'(by omega), List.getElem?_eq_getElem (by omega)⟩
  have hg := hget _ c hc
  by_cases hjt : j < tr.length
  · have hmem : c.toNat = 32 ∨ c.toNat = 0 := by
      rw [List.getElem?_append_right (by omega)] at hc
      exact ht c (List.mem_of_getElem? hc)
    by_cases h32 : c.toNat = 32
    · refine TC.region ?_
      refine TL.val (Yl.move rfl) rfl ?_
      refine TL.val (Yl.lenL Tryz.underlying40 rfl) rfl ?_
      refine TL.val (Yl.gtr rfl rfl (decide_eq_true (by omega))) rfl ?_
      refine TL.val (Yl.move rfl) rfl ?_
      refine TL.yes rfl rfl rfl ?_
      refine TL.val (Yl.move rfl) rfl ?_
      refine TL.yes rfl rfl rfl ?_
      refine TL.val (Yl.move rfl) rfl ?_
      refine TL.yes rfl rfl rfl ?_
      refine TL.val (Yl.lenL Tryz.underlying40 rfl) rfl ?_
      refine TL.yes rfl rfl rfl ?_
      refine TL.val (Yl.sub rfl rfl (wI (by omega))) rfl ?_
      refine TL.yes rfl rfl rfl ?_
      refine TL.val (Yl.idxAddrS (j := n - j - 1) (o := off + (n - j - 1)) Tryz.underlying40 sz5 rfl rfl (by omega) (by omega) (by omega)) rfl ?_
      refine TL.yes rfl rfl rfl ?_
      refine TL.val (Yl.loadB (off := off + (n - j - 1)) Tryz.underlying5 rfl rfl (by repeat (first | exact Foc.head | apply Foc.tail | apply Foc.right)) rfl hg) rfl ?_
      refine TL.yes rfl rfl rfl ?_
      refine TL.val (Yl.eql rfl rfl (decide_eq_true (by omega))) rfl ?_
      refine TL.yes rfl rfl rfl ?_
      refine TL.val (Yl.move rfl) rfl ?_
      refine TL.no rfl rfl rfl rfl rfl ?_
      refine TL.no rfl rfl rfl rfl rfl ?_
      refine TL.no rfl rfl rfl rfl rfl ?_
      refine TL.no rfl rfl rfl rfl rfl ?_
      refine TL.no rfl rfl rfl rfl rfl ?_
      refine TL.no rfl rfl rfl rfl rfl ?_
      refine TL.no rfl rfl rfl rfl rfl ?_
      refine TL.yes rfl rfl rfl ?_
      refine TL.val (Yl.pickT rfl rfl) rfl ?_
      refine TL.val (Yl.pickT rfl rfl) rfl ?_
      refine TL.next ?_
      refine TC.yes rfl ?_
      refine TC.skip_next ?_
      refine TC.block ?_
      refine TC.region ?_
      refine TL.val (Yl.move rfl) rfl ?_
      refine TL.val (Yl.move rfl) rfl ?_
      refine TL.val (Yl.lenL Tryz.underlying40 rfl) rfl ?_
      refine TL.val (Yl.sub rfl rfl (wI (by omega))) rfl ?_
      refine TL.val (Yl.slcH (j := n - j - 1) Tryz.underlying40 sz5 rfl rfl (by omega) (by omega)) rfl ?_
      rw [hadv]
      refine TL.val (Yl.assign rfl) rfl ?_
      exact TL.done (Inv.again (j + 1) (by omega) (by omega) ⟨(by rw [show n - (j + 1) = n - j - 1 by omega]; rfl), trivial⟩ (fun _ h => h))
    · refine TC.region ?_
      refine TL.val (Yl.move rfl) rfl ?_
      refine TL.val (Yl.lenL Tryz.underlying40 rfl) rfl ?_
      refine TL.val (Yl.gtr rfl rfl (decide_eq_true (by omega))) rfl ?_
      refine TL.val (Yl.move rfl) rfl ?_
      refine TL.yes rfl rfl rfl ?_
      refine TL.val (Yl.move rfl) rfl ?_
      refine TL.yes rfl rfl rfl ?_
      refine TL.val (Yl.move rfl) rfl ?_
      refine TL.yes rfl rfl rfl ?_
      refine TL.val (Yl.lenL Tryz.underlying40 rfl) rfl ?_
      refine TL.yes rfl rfl rfl ?_
      refine TL.val (Yl.sub rfl rfl (wI (by omega))) rfl ?_
      refine TL.yes rfl rfl rfl ?_
      refine TL.val (Yl.idxAddrS (j := n - j - 1) (o := off + (n - j - 1)) Tryz.underlying40 sz5 rfl rfl (by omega) (by omega) (by omega)) rfl ?_
      refine TL.yes rfl rfl rfl ?_
      refine TL.val (Yl.loadB (off := off + (n - j - 1)) Tryz.underlying5 rfl rfl (by repeat (first | exact Foc.head | apply Foc.tail | apply Foc.right)) rfl hg) rfl ?_
      refine TL.yes rfl rfl rfl ?_
      refine TL.val (Yl.eql rfl rfl (decide_eq_false (by omega))) rfl ?_
      refine TL.yes rfl rfl rfl ?_
      refine TL.val (Yl.move rfl) rfl ?_
      refine TL.yes rfl rfl rfl ?_
      refine TL.val (Yl.move rfl) rfl ?_
      refine TL.yes rfl rfl rfl ?_
      refine TL.val (Yl.move rfl) rfl ?_
      refine TL.yes rfl rfl rfl ?_
      refine TL.val (Yl.lenL Tryz.underlying40 rfl) rfl ?_
      refine TL.yes rfl rfl rfl ?_
      refine TL.val (Yl.sub rfl rfl (wI (by omega))) rfl ?_
      refine TL.yes rfl rfl rfl ?_
      refine TL.val (Yl.idxAddrS (j := n - j - 1) (o := off + (n - j - 1)) Tryz.underlying40 sz5 rfl rfl (by omega) (by omega) (by omega)) rfl ?_
      refine TL.yes rfl rfl rfl ?_
      refine TL.val (Yl.loadB (off := off + (n - j - 1)) Tryz.underlying5 rfl rfl (by repeat (first | exact Foc.head | apply Foc.tail | apply Foc.right)) rfl hg) rfl ?_
      refine TL.yes rfl rfl rfl ?_
      refine TL.val (Yl.eql rfl rfl (decide_eq_true (by omega))) rfl ?_
      refine TL.yes rfl rfl rfl ?_
      refine TL.val (Yl.pickF rfl rfl) rfl ?_
      refine TL.val (Yl.pickT rfl rfl) rfl ?_
      refine TL.next ?_
      refine TC.yes rfl ?_
      refine TC.skip_next ?_
      refine TC.block ?_
      refine TC.region ?_
      refine TL.val (Yl.move rfl) rfl ?_
      refine TL.val (Yl.move rfl) rfl ?_
      refine TL.val (Yl.lenL Tryz.underlying40 rfl) rfl ?_
      refine TL.val (Yl.sub rfl rfl (wI (by omega))) rfl ?_
      refine TL.val (Yl.slcH (j := n - j - 1) Tryz.underlying40 sz5 rfl rfl (by omega) (by omega)) rfl ?_
      rw [hadv]
      refine TL.val (Yl.assign rfl) rfl ?_
      exact TL.done (Inv.again (j + 1) (by omega) (by omega) ⟨(by rw [show n - (j + 1) = n - j - 1 by omega]; rfl), trivial⟩ (fun _ h => h))
  · have hdig := ho c (by
      rw [List.getElem?_append_left (by omega)] at hc
      exact List.mem_of_getElem? hc)
    refine TC.region ?_
    refine TL.val (Yl.move rfl) rfl ?_
    refine TL.val (Yl.lenL Tryz.underlying40 rfl) rfl ?_
    refine TL.val (Yl.gtr rfl rfl (decide_eq_true (by omega))) rfl ?_
    refine TL.val (Yl.move rfl) rfl ?_
    refine TL.yes rfl rfl rfl ?_
    refine TL.val (Yl.move rfl) rfl ?_
    refine TL.yes rfl rfl rfl ?_
    refine TL.val (Yl.move rfl) rfl ?_
    refine TL.yes rfl rfl rfl ?_
    refine TL.val (Yl.lenL Tryz.underlying40 rfl) rfl ?_
    refine TL.yes rfl rfl rfl ?_
    refine TL.val (Yl.sub rfl rfl (wI (by omega))) rfl ?_
    refine TL.yes rfl rfl rfl ?_
    refine TL.val (Yl.idxAddrS (j := n - j - 1) (o := off + (n - j - 1)) Tryz.underlying40 sz5 rfl rfl (by omega) (by omega) (by omega)) rfl ?_
    refine TL.yes rfl rfl rfl ?_
    refine TL.val (Yl.loadB (off := off + (n - j - 1)) Tryz.underlying5 rfl rfl (by repeat (first | exact Foc.head | apply Foc.tail | apply Foc.right)) rfl hg) rfl ?_
    refine TL.yes rfl rfl rfl ?_
    refine TL.val (Yl.eql rfl rfl (decide_eq_false (by omega))) rfl ?_
    refine TL.yes rfl rfl rfl ?_
    refine TL.val (Yl.move rfl) rfl ?_
    refine TL.yes rfl rfl rfl ?_
    refine TL.val (Yl.move rfl) rfl ?_
    refine TL.yes rfl rfl rfl ?_
    refine TL.val (Yl.move rfl) rfl ?_
    refine TL.yes rfl rfl rfl ?_
    refine TL.val (Yl.lenL Tryz.underlying40 rfl) rfl ?_
    refine TL.yes rfl rfl rfl ?_
    refine TL.val (Yl.sub rfl rfl (wI (by omega))) rfl ?_
    refine TL.yes rfl rfl rfl ?_
    refine TL.val (Yl.idxAddrS (j := n - j - 1) (o := off + (n - j - 1)) Tryz.underlying40 sz5 rfl rfl (by omega) (by omega) (by omega)) rfl ?_
    refine TL.yes rfl rfl rfl ?_
    refine TL.val (Yl.loadB (off := off + (n - j - 1)) Tryz.underlying5 rfl rfl (by repeat (first | exact Foc.head | apply Foc.tail | apply Foc.right)) rfl hg) rfl ?_
    refine TL.yes rfl rfl rfl ?_
    refine TL.val (Yl.eql rfl rfl (decide_eq_false (by omega))) rfl ?_
    refine TL.yes rfl rfl rfl ?_
    refine TL.val (Yl.pickF rfl rfl) rfl ?_
    refine TL.val (Yl.pickT rfl rfl) rfl ?_
    refine TL.next ?_
    refine TC.no rfl ?_
    refine TC.exit_next rfl ?_
    refine TC.seq ?_
    refine TC.seq ?_
    obtain rfl : j = tr.length := by omega
    rw [show n - tr.length = ds.length by omega]
    refine TC.region ?_
    refine TL.val (Yl.move rfl) rfl ?_
    refine TL.val (Yl.lenL Tryz.underlying40 rfl) rfl ?_
    refine TL.val (Yl.eql rfl rfl (decide_eq_false (by omega))) rfl ?_
    refine TL.next ?_
    refine TC.no rfl ?_
    refine TC.skip_next ?_
    refine TC.seq ?_
    refine TC.region ?_
    refine TL.val (Yl.move rfl) rfl ?_
    refine TL.quiet (Cll.func (xs := [_]) (vs := [_]) Tryz.func58 rfl (by kernel_rfl) ⟨rfl, trivial⟩) rfl (str_q (te := te) l ds b off ds.length cap fr (by have := congrArg (List.take ds.length) hx; rw [List.take_take, Nat.min_eq_left (by omega), List.take_left] at this; exact this) (by omega) (by omega) |> Quiet.pull (L := [(b, _)]) (R := Fr) (.cons (by repeat (first | exact Pull.head | apply Pull.tail | apply Pull.right)) .nil)) ?_
    rw [cut0_oct ds ho]
    refine TL.quiet (Cll.func (xs := [_, _, _]) (vs := [_, _, _]) Tryz.func82 rfl (by kernel_rfl) ⟨rfl, rfl, rfl, trivial⟩) rfl (Quiet.none (parseUint_q ds ho hne hl)) ?_
    refine TL.val (Yl.move rfl) rfl ?_
    refine TL.val (Yl.extract rfl rfl) rfl ?_
    refine TL.val (Yl.extract rfl rfl) rfl ?_
    refine TL.val (Yl.assign rfl) rfl ?_
    refine TL.val (Yl.assign rfl) rfl ?_
    refine TL.next ?_
    refine TC.seq ?_
    refine TC.draws [] _ mixed (by kernel_rfl) rfl (fun _ h => h) ?_
    refine TA.pure 0 rfl (by kernel_rfl) (Yl.move rfl) rfl ?_
    refine TA.pure 1 rfl (by kernel_rfl) (Yl.conv Tryz.underlying167 Tryz.underlying2 rfl (wI (by omega))) rfl ?_
    refine TA.pure 2 rfl (by kernel_rfl) (Yl.move rfl) rfl ?_
    refine TA.pure 3 rfl (by kernel_rfl) (Yl.eqlNilN Tryz.underlying58 rfl rfl) rfl ?_
    refine TA.pure 4 rfl (by kernel_rfl) (Yl.assign rfl) rfl ?_
    refine TA.pure 5 rfl (by kernel_rfl) (Yl.assign rfl) rfl ?_
    refine TA.next (by kernel_rfl) ?_
    exact TC.back2 () rfl rfl rfl rfl (fun _ h => h.sub (by repeat (first | exact List.Sublist.refl _ | exact List.sublist_append_right _ _ | refine List.Sublist.cons_cons _ ?_ | refine List.Sublist.cons _ ?_)))
theorem and128 {c : UInt8} (h : c.toNat ≤ 55) : c &&& 128 = 0 := by
  have : ∀ n : Nat, n ≤ 55 → UInt8.ofNat n &&& 128 = 0 := by decide
  have h2 := this c.toNat h
  rwa [UInt8.ofNat_toNat] at h2
theorem number_q {te : TypeId} (l ds tr : List UInt8) (b off n cap : Nat) (fr : Nat × Nat) (hx : (l.drop off).take n = ds ++ tr) (hn : ds.length + tr.length = n) (hcap : n ≤ cap) (hle : off + n ≤ l.length) (hn2 : n ≤ 1000) (ho : isOct ds) (hne : ds ≠ []) (hl : ds.length ≤ 20) (ht : isTrail tr) : Quiet Tryz.prog 66 #[sl b off n cap] [(b, .cells ⟨bV l⟩ te fr)] (.tuple #[.int .i64 (octV ds : Int), .bool true]) := by
  refine Quiet.of_gives fun g Fr => ?_
  refine Gives.enter Tryz.func66 rfl Tryz.ntmps66 rfl ?_
  have hd0 : 0 < ds.length := List.length_pos_iff.2 hne
  obtain ⟨c0, hc0⟩ : ∃ c, ds[0]? = some c := ⟨ds[0]'hd0, List.getElem?_eq_getElem hd0⟩
  have hcc0 := ho c0 (List.mem_of_getElem? hc0)
  have hg0 : l[off + 0]? = some c0 := by
    have h := (List.getElem?_append_left (l₂ := tr) hd0).trans hc0
    rw [← hx, List.getElem?_take, if_pos (by omega), List.getElem?_drop] at h
    exact h
  refine TC.seq ?_
  refine TC.region ?_
  refine TL.val (Yl.assign rfl) rfl ?_
  refine TL.val (Yl.assign rfl) rfl ?_
  refine TL.next ?_
  refine TC.seq ?_
  refine TC.seq ?_
  refine TC.region ?_
  refine TL.val (Yl.move rfl) rfl ?_
  refine TL.val (Yl.idxAddrS (j := 0) (o := off + 0) Tryz.underlying40 sz5 rfl rfl rfl (by omega) (by omega)) rfl ?_
  refine TL.val (Yl.loadB (off := off + 0) Tryz.underlying5 rfl rfl (by repeat (first | exact Foc.head | apply Foc.tail | apply Foc.right)) rfl hg0) rfl ?_
  refine TL.val (Yl.and8 (a := c0) (b := 128) rfl rfl) rfl ?_
  refine TL.val (Yl.eql8 (b := 0) rfl rfl (decide_eq_true (and128 hcc0.2))) rfl ?_
  refine TL.next ?_
  refine TC.yes rfl ?_
  refine TC.seq ?_
  refine TC.region ?_
  refine TL.val (Yl.move rfl) rfl ?_
  refine TL.quiet (Cll.func (xs := [_]) (vs := [_]) Tryz.func78 rfl (by kernel_rfl) ⟨rfl, trivial⟩) rfl (Quiet.pull (L := [(b, _)]) (R := Fr) (.cons (by repeat (first | exact Pull.head | apply Pull.tail | apply Pull.right)) .nil) (octal_q (te := te) l ds tr b off n cap fr hx hn hcap hle hn2 ho hne hl ht)) ?_
  refine TL.val (Yl.extract rfl rfl) rfl ?_
  refine TL.val (Yl.extract rfl rfl) rfl ?_
  refine TL.val (Yl.assign rfl) rfl ?_
  refine TL.val (Yl.assign rfl) rfl ?_
  refine TL.next ?_
  exact TC.back2 () rfl rfl rfl rfl (fun _ h => h.sub (by repeat (first | exact List.Sublist.refl _ | exact List.sublist_append_right _ _ | refine List.Sublist.cons_cons _ ?_ | refine List.Sublist.cons _ ?_)))
end Go.Proofs.YtlhncphipfkkjaaGreatDoor

/- The fields of a header that the spec wrote. -/
namespace Go.Proofs.YtlhncphipfkkjaaGreatDoor
open Go

theorem octDig (n k : Nat) : (toU8 (48 + ((n / 8 ^ k : Nat) : Int) % 2 ^ 3)).toNat = 48 + n / 8 ^ k % 8 := by
  have : (48 + ((n / 8 ^ k : Nat) : Int) % 2 ^ 3) = ((48 + n / 8 ^ k % 8 : Nat) : Int) := by push_cast; rfl
  rw [this, toU8_nat]; omega
theorem octD_isOct (n k : Nat) : isOct (octD n k) := by
  induction k with
  | zero => intro c hc; simp [octD] at hc
  | succ k ih =>
    intro c hc
    rcases List.mem_cons.1 hc with rfl | hc
    · rw [octDig]; omega
    · exact ih c hc
theorem octD_fold (n k : Nat) : ∀ a, (octD n k).foldl (fun a c => a * 8 + (c.toNat - 48)) a = a * 8 ^ k + n % 8 ^ k := by
  induction k with
  | zero => intro a; simp [octD, Nat.mod_one]
  | succ k ih =>
    intro a
    rw [octD, List.foldl_cons, ih, octDig, Nat.pow_succ, Nat.mod_mul]
    rw [show 48 + n / 8 ^ k % 8 - 48 = n / 8 ^ k % 8 by omega, Nat.add_mul, Nat.mul_assoc, Nat.mul_comm 8 (8 ^ k), Nat.mul_comm (n / 8 ^ k % 8) (8 ^ k)]
    omega
theorem octV_octD {n k : Nat} (h : n < 8 ^ k) : octV (octD n k) = n := by
  unfold octV
  rw [octD_fold, Nat.zero_mul, Nat.zero_add, Nat.mod_eq_of_lt h]
theorem octD_ne {n k : Nat} (h : 0 < k) : octD n k ≠ [] := fun e => by
  have := congrArg List.length e
  rw [octD_length] at this; simp at this; omega

def tarSegs (e : TE) : List (List UInt8) := [padN e.name 100, octal e.mode 7, octal 0 7, octal 0 7, octal e.data.length 11, octal 0 11, octal (tarSum e) 6, [32], [e.flag], padN e.link 100, ustarB, padN [] 64, octal 0 7, octal 0 7, padN [] 167]
theorem tarHead_segs (e : TE) : tarHead e = (tarSegs e).flatten := by
  simp only [tarHead, tarA, tarZ, tarSegs, List.flatten_cons, List.flatten_nil, List.append_assoc, List.append_nil]
theorem seg_at (L : List (List UInt8)) (i off : Nat) (x : List UInt8) (hx : L[i]? = some x) (ho : ((L.take i).map List.length).sum = off) : (L.flatten.drop off).take x.length = x := by
  obtain ⟨hi, rfl⟩ := List.getElem?_eq_some_iff.1 hx
  have e1 : L = L.take i ++ (L[i] :: L.drop (i + 1)) := by rw [← List.drop_eq_getElem_cons hi, List.take_append_drop]
  have e2 : L.flatten = (L.take i).flatten ++ (L[i] ++ (L.drop (i + 1)).flatten) := by
    conv => lhs; rw [e1]
    rw [List.flatten_append, List.flatten_cons]
  have e3 : (L.take i).flatten.length = off := by rw [List.length_flatten]; exact ho
  rw [e2, ← e3, List.drop_left, List.take_left]
theorem tar_fld (e : TE) (i off n : Nat) (x : List UInt8) (hx : (tarSegs e)[i]? = some x) (ho : (((tarSegs e).take i).map List.length).sum = off) (hn : x.length = n) : ((tarHead e).drop off).take n = x := by
  rw [tarHead_segs, ← hn]; exact seg_at _ i off x hx ho
theorem fld_name (e : TE) : ((tarHead e).drop 0).take 100 = padN e.name 100 := tar_fld e 0 0 100 _ rfl rfl (padN_length _ _)
theorem fld_mode (e : TE) : ((tarHead e).drop 100).take 8 = octal e.mode 7 := tar_fld e 1 100 8 _ rfl (by simp [tarSegs, padN_length]) (octal_length _ _)
theorem fld_uid (e : TE) : ((tarHead e).drop 108).take 8 = octal 0 7 := tar_fld e 2 108 8 _ rfl (by simp [tarSegs, padN_length, octal_length]) (octal_length _ _)
theorem fld_gid (e : TE) : ((tarHead e).drop 116).take 8 = octal 0 7 := tar_fld e 3 116 8 _ rfl (by simp [tarSegs, padN_length, octal_length]) (octal_length _ _)
theorem fld_size (e : TE) : ((tarHead e).drop 124).take 12 = octal e.data.length 11 := tar_fld e 4 124 12 _ rfl (by simp [tarSegs, padN_length, octal_length]) (octal_length _ _)
theorem fld_time (e : TE) : ((tarHead e).drop 136).take 12 = octal 0 11 := tar_fld e 5 136 12 _ rfl (by simp [tarSegs, padN_length, octal_length]) (octal_length _ _)
theorem fld_sum (e : TE) : ((tarHead e).drop 148).take 7 = octal (tarSum e) 6 := tar_fld e 6 148 7 _ rfl (by simp [tarSegs, padN_length, octal_length]) (octal_length _ _)
theorem fld_sp (e : TE) : ((tarHead e).drop 155).take 1 = [32] := tar_fld e 7 155 1 _ rfl (by simp [tarSegs, padN_length, octal_length]) rfl
theorem fld_flag (e : TE) : ((tarHead e).drop 156).take 1 = [e.flag] := tar_fld e 8 156 1 _ rfl (by simp [tarSegs, padN_length, octal_length]) rfl
theorem fld_link (e : TE) : ((tarHead e).drop 157).take 100 = padN e.link 100 := tar_fld e 9 157 100 _ rfl (by simp [tarSegs, padN_length, octal_length]) (padN_length _ _)
theorem fld_magic (e : TE) : ((tarHead e).drop 257).take 8 = ustarB := tar_fld e 10 257 8 _ rfl (by simp [tarSegs, padN_length, octal_length]) rfl
theorem fld_names (e : TE) : ((tarHead e).drop 265).take 64 = padN [] 64 := tar_fld e 11 265 64 _ rfl (by simp [tarSegs, padN_length, octal_length, ustarB]) (padN_length _ _)
theorem fld_maj (e : TE) : ((tarHead e).drop 329).take 8 = octal 0 7 := tar_fld e 12 329 8 _ rfl (by simp [tarSegs, padN_length, octal_length, ustarB]) (octal_length _ _)
theorem fld_min (e : TE) : ((tarHead e).drop 337).take 8 = octal 0 7 := tar_fld e 13 337 8 _ rfl (by simp [tarSegs, padN_length, octal_length, ustarB]) (octal_length _ _)
theorem fld_pre (e : TE) : ((tarHead e).drop 345).take 167 = padN [] 167 := tar_fld e 14 345 167 _ rfl (by simp [tarSegs, padN_length, octal_length, ustarB]) (padN_length _ _)
theorem fld_chk (e : TE) : ((tarHead e).drop 148).take 8 = octD (tarSum e) 6 ++ [0, 32] := by
  have h1 := fld_sum e
  have h2 := fld_sp e
  have : ((tarHead e).drop 148).take (7 + 1) = ((tarHead e).drop 148).take 7 ++ ((tarHead e).drop (148 + 7)).take 1 := (take_more _ _ _ _).symm
  rw [this, h1, h2]; simp [octal]
end Go.Proofs.YtlhncphipfkkjaaGreatDoor

/- The checksum of a header. -/
namespace Go.Proofs.YtlhncphipfkkjaaGreatDoor
open Go
theorem chk1 {h : List UInt8} (hh : h.length = 512) (k : Nat) (hk : k ≤ 148) : chkU h k = sumB (h.take k) := by
  induction k with
  | zero => simp [chkU, sumB]
  | succ k ih =>
    have hc : h[k]? = some (byteAt h k) := byteAt_get (by omega)
    rw [chkU, ih (by omega), sumB_snoc hc, chkB, if_neg (by omega)]
theorem chk2 {h : List UInt8} (hh : h.length = 512) (k : Nat) (hk : k ≤ 8) : chkU h (148 + k) = sumB (h.take 148) + 32 * k := by
  induction k with
  | zero => exact chk1 hh 148 (Nat.le_refl _)
  | succ k ih =>
    rw [← Nat.add_assoc, chkU, ih (by omega), chkB, if_pos (by omega)]
    show _ + 32 = _
    omega
theorem chk3 {h : List UInt8} (hh : h.length = 512) (k : Nat) (hk : k ≤ 356) : chkU h (156 + k) = sumB (h.take 148) + 256 + sumB ((h.drop 156).take k) := by
  induction k with
  | zero => have := chk2 hh 8 (Nat.le_refl _); simp [sumB] at *; omega
  | succ k ih =>
    have hc : (h.drop 156)[k]? = some (byteAt h (156 + k)) := by rw [List.getElem?_drop]; exact byteAt_get (by omega)
    rw [← Nat.add_assoc, chkU, ih (by omega), sumB_snoc hc, chkB, if_neg (by omega)]; omega
theorem sumB_app (a b : List UInt8) : sumB (a ++ b) = sumB a + sumB b := by simp [sumB]
theorem chk_head (e : TE) : chkU (tarHead e) 512 = tarSum e := by
  have h := chk3 (tarHead_length e) 356 (Nat.le_refl _)
  have e1 : tarHead e = tarA e ++ (octal (tarSum e) 6 ++ [32] ++ tarZ e) := by simp only [tarHead, List.append_assoc]
  have e2 : tarHead e = (tarA e ++ octal (tarSum e) 6 ++ [32]) ++ tarZ e := rfl
  have h1 : (tarHead e).take 148 = tarA e := by
    rw [e1, ← tarA_length e, List.take_left]
  have h2 : ((tarHead e).drop 156).take 356 = tarZ e := by
    rw [e2, show 156 = (tarA e ++ octal (tarSum e) 6 ++ [32]).length by simp [tarA_length, octal_length], List.drop_left, ← tarZ_length e, List.take_length]
  rw [h1, h2] at h
  rw [h, tarSum, sumB_app]; omega
theorem tarSum_lt (e : TE) : tarSum e < 8 ^ 6 := by
  have := sumB_le (tarA e ++ tarZ e)
  rw [List.length_append, tarA_length, tarZ_length] at this
  unfold tarSum
  show _ < 262144
  omega
end Go.Proofs.YtlhncphipfkkjaaGreatDoor

namespace Go.Proofs.YtlhncphipfkkjaaGreatDoor
open Go
theorem format_q (e : TE) (b4 : Nat) : Quiet Tryz.prog 64 #[pt b4 0] [(b4, oC (bV (tarHead e)) 203)] (.int .i64 3) := by
  refine Quiet.of_gives fun g Fr => ?_
  refine Gives.enter Tryz.func64 rfl Tryz.ntmps64 rfl ?_
  have hts := tarSum_lt e
  have hadv : adv 0 512 148 1 = 148 := rfl
  refine TC.seq ?_
  refine TC.region ?_
  refine TL.val (Yl.assign rfl) rfl ?_
  refine TL.next ?_
  refine TC.seq ?_
  refine TC.region ?_
  refine TL.val (Yl.move rfl) rfl ?_
  refine TL.val (Yl.nilCheckP rfl) rfl ?_
  refine TL.val (Yl.arrLH (i := 148) (j := 156) Tryz.underlying203 sz5 rfl rfl rfl rfl rfl (by omega) (by omega) rfl) rfl ?_
  refine TL.quiet (Cll.func (xs := [_]) (vs := [_]) Tryz.func78 rfl (by kernel_rfl) ⟨rfl, trivial⟩) rfl (Quiet.pull (L := [(b4, _)]) (R := Fr) (.cons (by repeat (first | exact Pull.head | apply Pull.tail | apply Pull.right)) .nil) (octal_q (te := 203) (tarHead e) (octD (tarSum e) 6) [0, 32] b4 148 8 364 (0, 0) (fld_chk e) rfl (by decide) (by rw [tarHead_length]; decide) (by decide) (octD_isOct _ _) (octD_ne (by decide)) (by rw [octD_length]; decide) (by intro c hc; simp at hc; rcases hc with rfl | rfl <;> first | exact .inr rfl | exact .inl rfl))) ?_
  rw [octV_octD hts]
  refine TL.val (Yl.move rfl) rfl ?_
  refine TL.val (Yl.extract rfl rfl) rfl ?_
  refine TL.val (Yl.extract rfl rfl) rfl ?_
  refine TL.val (Yl.assign rfl) rfl ?_
  refine TL.val (Yl.assign rfl) rfl ?_
  refine TL.next ?_
  refine TC.seq ?_
  refine TC.seq ?_
  refine TC.region ?_
  refine TL.val (Yl.move rfl) rfl ?_
  refine TL.quiet (Cll.func (xs := [_]) (vs := [_]) Tryz.func79 rfl (by kernel_rfl) ⟨rfl, trivial⟩) rfl (Quiet.pull (L := [(b4, _)]) (R := Fr) (.cons (by repeat (first | exact Pull.head | apply Pull.tail | apply Pull.right)) .nil) (sums_q (tarHead e) (tarHead_length e) b4)) ?_
  rw [chk_head]
  refine TL.val (Yl.move rfl) rfl ?_
  refine TL.val (Yl.extract rfl rfl) rfl ?_
  refine TL.val (Yl.extract rfl rfl) rfl ?_
  refine TL.val (Yl.assign rfl) rfl ?_
  refine TL.val (Yl.assign rfl) rfl ?_
  refine TL.next ?_
  refine TC.seq ?_
  refine TC.region ?_
  refine TL.val (Yl.move rfl) rfl ?_
  refine TL.val (Yl.not (b := true) rfl) rfl ?_
  refine TL.val (Yl.move rfl) rfl ?_
  refine TL.yes rfl rfl rfl ?_
  refine TL.val (Yl.move rfl) rfl ?_
  refine TL.yes rfl rfl rfl ?_
  refine TL.val (Yl.move rfl) rfl ?_
  refine TL.yes rfl rfl rfl ?_
  refine TL.val (Yl.neq (b := false) rfl rfl (decide_eq_false (fun h => h rfl))) rfl ?_
  refine TL.yes rfl rfl rfl ?_
  refine TL.val (Yl.move rfl) rfl ?_
  refine TL.no rfl rfl rfl rfl rfl ?_
  refine TL.no rfl rfl rfl rfl rfl ?_
  refine TL.no rfl rfl rfl rfl rfl ?_
  refine TL.yes rfl rfl rfl ?_
  refine TL.val (Yl.pickF rfl rfl) rfl ?_
  refine TL.val (Yl.pickF rfl rfl) rfl ?_
  refine TL.next ?_
  refine TC.no rfl ?_
  refine TC.skip_next ?_
  refine TC.seq ?_
  refine TC.block ?_
  refine TC.seq ?_
  refine TC.region ?_
  refine TL.val (Yl.move rfl) rfl ?_
  refine TL.val (Yl.nilCheckP rfl) rfl ?_
  refine TL.val (Yl.arrLH (i := 257) (j := 263) Tryz.underlying203 sz5 rfl rfl rfl rfl rfl (by omega) (by omega) rfl) rfl ?_
  refine TL.val (Yl.strB (m := [117, 115, 116, 97, 114, 0]) Tryz.underlying40 Tryz.underlying5 Tryz.underlying9 rfl (by repeat (first | exact Foc.head | apply Foc.tail | apply Foc.right)) (by have := congrArg (List.take 6) (fld_magic e); rwa [List.take_take] at this) (by rw [tarHead_length]; decide)) rfl ?_
  refine TL.val (Yl.eqlS (r := true) rfl rfl rfl) rfl ?_
  refine TL.val (Yl.assign rfl) rfl ?_
  refine TL.next ?_
  refine TC.yes rfl ?_
  refine TC.seq ?_
  refine TC.region ?_
  refine TL.val (Yl.assign rfl) rfl ?_
  refine TL.next ?_
  exact TC.back1 () rfl rfl (fun _ h => h.sub (by repeat (first | exact List.Sublist.refl _ | exact List.sublist_append_right _ _ | refine List.Sublist.cons_cons _ ?_ | refine List.Sublist.cons _ ?_)))
theorem num_q (h ds tr : List UInt8) (i k : Nat) (hh : h.length = 512) (hx : (h.drop i).take k = ds ++ tr) (hn : ds.length + tr.length = k) (hik : i + k ≤ 512) (ho : isOct ds) (hne : ds ≠ []) (hl : ds.length ≤ 20) (ht : isTrail tr) (b4 b10 : Nat) : Quiet Tryz.prog 65 #[.int .i64 (i : Int), .int .i64 (k : Int), pt b4 0, pt b10 0] [(b4, oC (bV h) 203), (b10, oC [.bool true] 4)] (.int .i64 (octV ds : Int)) := by
  refine Quiet.of_gives fun g Fr => ?_
  refine Gives.enter Tryz.func65 rfl Tryz.ntmps65 rfl ?_
  have hd0 := List.length_pos_iff.2 hne
  refine TC.seq ?_
  refine TC.region ?_
  refine TL.val (Yl.assign rfl) rfl ?_
  refine TL.next ?_
  refine TC.seq ?_
  refine TC.region ?_
  refine TL.val (Yl.move rfl) rfl ?_
  refine TL.val (Yl.move rfl) rfl ?_
  refine TL.val (Yl.move rfl) rfl ?_
  refine TL.val (Yl.add rfl rfl (wI (by omega))) rfl ?_
  refine TL.val (Yl.arrLH (i := i) (j := i + k) Tryz.underlying203 sz5 rfl rfl rfl rfl (by omega) (by omega) (by omega) rfl) rfl ?_
  rw [show adv 0 512 i 1 = i by unfold adv; rw [if_neg (by omega)]; omega, show i + k - i = k by omega]
  refine TL.quiet (Cll.func (xs := [_]) (vs := [_]) Tryz.func66 rfl (by kernel_rfl) ⟨rfl, trivial⟩) rfl (Quiet.pull (L := [(b4, _)]) (R := _) (.cons (by repeat (first | exact Pull.head | apply Pull.tail | apply Pull.right)) .nil) (number_q (te := 203) h ds tr b4 i k (512 - i) (0, 0) hx hn (by omega) (by omega) (by omega) ho hne hl ht)) ?_
  refine TL.val (Yl.move rfl) rfl ?_
  refine TL.val (Yl.extract rfl rfl) rfl ?_
  refine TL.val (Yl.extract rfl rfl) rfl ?_
  refine TL.val (Yl.assign rfl) rfl ?_
  refine TL.val (Yl.assign rfl) rfl ?_
  refine TL.next ?_
  refine TC.seq ?_
  refine TC.region ?_
  refine TL.val (Yl.load1 (v := .bool true) Tryz.underlying4 rfl rfl (by repeat (first | exact Foc.head | apply Foc.tail | apply Foc.right)) rfl) rfl ?_
  refine TL.val (Yl.move rfl) rfl ?_
  refine TL.yes rfl rfl rfl ?_
  refine TL.val (Yl.move rfl) rfl ?_
  refine TL.val (Yl.pickT rfl rfl) rfl ?_
  refine TL.skp (Skp.store1 (cs' := [.bool true]) sz4 rfl rfl rfl (by repeat (first | exact Foc.head | apply Foc.tail | apply Foc.right)) (Nat.le_of_ble_eq_true rfl) rfl) ?_
  refine TL.next ?_
  refine TC.seq ?_
  refine TC.region ?_
  refine TL.val (Yl.move rfl) rfl ?_
  refine TL.val (Yl.assign rfl) rfl ?_
  refine TL.next ?_
  exact TC.back1 () rfl rfl (fun _ h => h)
end Go.Proofs.YtlhncphipfkkjaaGreatDoor

/- A header as it is read. -/
namespace Go.Proofs.YtlhncphipfkkjaaGreatDoor
open Go
def hdrL (e : TE) (f : Int) : List Value := [.int .u8 (e.flag.toNat : Int), vS (cut0 (padN e.name 100)), vS (cut0 (padN e.link 100)), .int .i64 (e.data.length : Int), .int .i64 (e.mode : Int), .int .i64 0, .int .i64 0, vS [], vS [], .int .i64 62135596800, .int .i64 0, .int .i64 0, .int .i64 0, .int .i64 0, .int .i64 0, .int .i64 0, .int .i64 0, .int .i64 0, .int .i64 0, .int .i64 0, .map none, .int .i64 f]
theorem cut0_zeros (n : Nat) : cut0 (List.replicate n 0) = [] := by cases n <;> rfl
theorem pad_nil (n : Nat) : padN [] n = List.replicate n 0 := by simp [padN]
theorem head_ne (e : TE) : tarHead e ≠ List.replicate 512 0 := fun h => by
  have := fld_magic e
  rw [h, List.drop_replicate, List.take_replicate] at this
  exact absurd this (by decide)
theorem oct0 {k : Nat} : octV (octD 0 k) = 0 := octV_octD (Nat.pow_pos (by decide))
theorem trail0 : isTrail [0] := by intro c hc; simp at hc; subst hc; exact .inr rfl
theorem fld_un (e : TE) : ((tarHead e).drop 265).take 32 = List.replicate 32 0 := by
  have := congrArg (List.take 32) (fld_names e)
  rw [List.take_take, pad_nil] at this; simpa using this
theorem fld_gn (e : TE) : ((tarHead e).drop 297).take 32 = List.replicate 32 0 := by
  have := congrArg (List.drop 32) (fld_names e)
  rw [List.drop_take, List.drop_drop, pad_nil] at this; simpa using this
theorem fld_px (e : TE) : ((tarHead e).drop 345).take 155 = List.replicate 155 0 := by
  have := congrArg (List.take 155) (fld_pre e)
  rw [List.take_take, pad_nil] at this; simpa using this
theorem fld_f1 (e : TE) : (tarHead e)[156]? = some e.flag := by
  have := congrArg (fun z : List UInt8 => z[0]?) (fld_flag e)
  simpa [List.getElem?_take, List.getElem?_drop] using this
end Go.Proofs.YtlhncphipfkkjaaGreatDoor
