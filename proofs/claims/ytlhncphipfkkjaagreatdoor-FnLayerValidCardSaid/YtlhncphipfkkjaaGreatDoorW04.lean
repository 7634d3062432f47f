/- The contracts of the specification's functions: the CRC, SHA-256, texts, gzip and tar; conditions: bounds on lengths, in each contract. -/
import Derived.Test.YtlhncphipfkkjaaGreatDoorW02
import Derived.Test.YtlhncphipfkkjaaGreatDoorW03
namespace Go.Proofs.YtlhncphipfkkjaaGreatDoor
open Go

theorem turn_q (x : UInt32) (k : Nat) (hk : k ≤ 32) : Quiet Tryz.prog 22 #[.int .u32 x.toNat, .int .i64 k] [] (.int .u32 (rotr x k).toNat) := by
  refine Quiet.of_gives fun g Fr => ?_
  refine Gives.enter Tryz.func22 rfl Tryz.ntmps22 rfl ?_
  refine TC.seq ?_
  refine TC.region ?_
  refine TL.val (Yl.assign rfl) rfl ?_
  refine TL.next ?_
  refine TC.seq ?_
  refine TC.draws [] _ mixed (by kernel_rfl) rfl (fun _ h => h) ?_
  refine TA.pure 0 rfl (by kernel_rfl) (Yl.move rfl) rfl ?_
  refine TA.pure 1 rfl (by kernel_rfl) (Yl.move rfl) rfl ?_
  refine TA.pure 2 rfl (by kernel_rfl) (Yl.shr32 (c := k) rfl rfl) rfl ?_
  refine TA.pure 3 rfl (by kernel_rfl) (Yl.move rfl) rfl ?_
  refine TA.pure 4 rfl (by kernel_rfl) (Yl.move rfl) rfl ?_
  refine TA.pure 5 rfl (by kernel_rfl) (Yl.sub rfl rfl ((wI (by omega)).trans (by omega : (32 : Int) - k = ((32 - k : Nat) : Int)))) rfl ?_
  refine TA.pure 6 rfl (by kernel_rfl) (Yl.shl32 rfl rfl) rfl ?_
  refine TA.pure 7 rfl (by kernel_rfl) (Yl.or32  rfl rfl) rfl ?_
  refine TA.pure 8 rfl (by kernel_rfl) (Yl.assign rfl) rfl ?_
  refine TA.next (by kernel_rfl) ?_
  exact TC.back1 () rfl rfl (fun _ h => h)
theorem gzipSum_q (l : List UInt8) (hl : l.length ≤ 4294967296) : Quiet Tryz.prog 14 #[vS l] [] (.int .u32 (~~~ crcL 4294967295 l).toNat) := by
  refine Quiet.of_gives fun g Fr => ?_
  refine Gives.enter Tryz.func14 rfl Tryz.ntmps14 rfl ?_
  refine TC.seq ?_
  refine TC.region ?_
  refine TL.val (Yl.assign rfl) rfl ?_
  refine TL.next ?_
  refine TC.seq ?_
  refine TC.region ?_
  refine TL.val (Yl.assign rfl) rfl ?_
  refine TL.next ?_
  refine TC.seq ?_
  refine TC.seq ?_
  refine TC.region ?_
  refine TL.val (Yl.move rfl) rfl ?_
  refine TL.val (Yl.lenS Tryz.underlying9 rfl) rfl ?_
  refine TL.val (Yl.move rfl) rfl ?_
  refine TL.next ?_
  refine TC.block ?_
  refine TC.loopI (σ := Nat) (fun k => [(0, vS l), (3, .int .u32 (crcL 4294967295 (l.take k)).toNat), (7, .int .i64 (l.length : Int)), (8, .int .i64 (k : Int))]) (fun k => Fr) (fun k => k ≤ l.length) (fun k => l.length - k) 0 ⟨rfl, rfl, rfl, rfl, trivial⟩ (fun _ h => h) (Nat.zero_le _) (fun k hk => ?_)
  refine TC.seq ?_
  refine TC.region ?_
  refine TL.val (Yl.lss rfl rfl rfl) rfl ?_
  refine TL.next ?_
  refine TC.seq ?_
  refine TC.cond rfl (fun hc9 => ?_) (fun hc9 => ?_)
  · replace hc9 := of_decide_eq_true hc9
    refine TC.skip_next ?_
    refine TC.seq ?_
    refine TC.block ?_
    refine TC.seq ?_
    obtain ⟨c, hc⟩ : ∃ c, l[k]? = some c := ⟨l[k]'(by omega), List.getElem?_eq_getElem (by omega)⟩
    refine TC.region ?_
    refine TL.val (Yl.move rfl) rfl ?_
    refine TL.val (Yl.assign rfl) rfl ?_
    refine TL.next ?_
    refine TC.seq ?_
    refine TC.region ?_
    refine TL.val (Yl.move rfl) rfl ?_
    refine TL.val (Yl.move rfl) rfl ?_
    refine TL.val (Yl.move rfl) rfl ?_
    refine TL.val (Yl.idxS Tryz.underlying9 rfl rfl rfl hc) rfl ?_
    refine TL.val (Yl.conv Tryz.underlying5 Tryz.underlying42 rfl (w32_u8 _)) rfl ?_
    refine TL.val (Yl.xor32  rfl rfl) rfl ?_
    refine TL.val (Yl.assign rfl) rfl ?_
    refine TL.next ?_
    refine TC.seq ?_
    refine TC.region ?_
    refine TL.val (Yl.move rfl) rfl ?_
    refine TL.next ?_
    refine TC.block ?_
    refine TC.loopI (σ := Nat) (fun j => [(0, vS l), (3, .int .u32 (iterN crcBit j (crcL 4294967295 (l.take k) ^^^ c.toUInt32)).toNat), (7, .int .i64 (l.length : Int)), (8, .int .i64 (k : Int)), (17, .int .i64 (j : Int))]) (fun j => Fr) (fun j => j ≤ 8) (fun j => 8 - j) 0 ⟨rfl, rfl, rfl, rfl, rfl, trivial⟩ (fun _ h => h) (by omega) (fun j hj => ?_)
    refine TC.seq ?_
    refine TC.region ?_
    refine TL.val (Yl.lss rfl rfl rfl) rfl ?_
    refine TL.next ?_
    refine TC.seq ?_
    refine TC.cond rfl (fun hc18 => ?_) (fun hc18 => ?_)
    · replace hc18 := of_decide_eq_true hc18
      refine TC.skip_next ?_
      refine TC.seq ?_
      refine TC.block ?_
      refine TC.seq ?_
      refine TC.region ?_
      refine TL.val (Yl.move rfl) rfl ?_
      refine TL.val (Yl.and32 (b := 1) rfl rfl) rfl ?_
      refine TL.val (Yl.assign rfl) rfl ?_
      refine TL.next ?_
      refine TC.seq ?_
      refine TC.region ?_
      refine TL.val (Yl.move rfl) rfl ?_
      refine TL.val (Yl.shr32 (c := 1) rfl rfl) rfl ?_
      refine TL.val (Yl.assign rfl) rfl ?_
      refine TL.next ?_
      refine TC.seq ?_
      refine TC.region ?_
      refine TL.val (Yl.move rfl) rfl ?_
      refine TL.val (Yl.eql32 (b := 1) rfl rfl rfl) rfl ?_
      refine TL.next ?_
      refine TC.cond rfl (fun hc24 => ?_) (fun hc24 => ?_)
      · replace hc24 := of_decide_eq_true hc24
        refine TC.region ?_
        refine TL.val (Yl.move rfl) rfl ?_
        refine TL.val (Yl.xor32 (b := 3988292384) rfl rfl) rfl ?_
        refine TL.val (Yl.assign rfl) rfl ?_
        refine TL.next ?_
        refine TC.region ?_
        refine TL.val (Yl.add rfl rfl (wI (by omega))) rfl ?_
        refine TL.val (Yl.move rfl) rfl ?_
        exact TL.done (Inv.again (j + 1) (by omega) (by omega) ⟨rfl, (by simp only [iterN, crcBit]; (first | rw [if_pos hc24] | rw [if_neg hc24]); rfl), rfl, rfl, rfl, trivial⟩ (fun _ h => h))
      · replace hc24 := of_decide_eq_false hc24
        refine TC.skip_next ?_
        refine TC.region ?_
        refine TL.val (Yl.add rfl rfl (wI (by omega))) rfl ?_
        refine TL.val (Yl.move rfl) rfl ?_
        exact TL.done (Inv.again (j + 1) (by omega) (by omega) ⟨rfl, (by simp only [iterN, crcBit]; (first | rw [if_pos hc24] | rw [if_neg hc24]); rfl), rfl, rfl, rfl, trivial⟩ (fun _ h => h))
    · replace hc18 := of_decide_eq_false hc18
      refine TC.exit_next rfl ?_
      obtain rfl : j = 8 := by omega
      refine TC.region ?_
      refine TL.val (Yl.add rfl rfl (wI (by omega))) rfl ?_
      refine TL.val (Yl.move rfl) rfl ?_
      exact TL.done (Inv.again (k + 1) (by omega) (by omega) ⟨rfl, (by rw [crcL_snoc _ _ _ _ hc]; rfl), rfl, rfl, trivial⟩ (fun _ h => h))
  · replace hc9 := of_decide_eq_false hc9
    refine TC.exit_next rfl ?_
    refine TC.seq ?_
    obtain rfl : k = l.length := by omega
    rw [List.take_length]
    refine TC.region ?_
    refine TL.val (Yl.move rfl) rfl ?_
    refine TL.val (Yl.not32 rfl) rfl ?_
    refine TL.val (Yl.assign rfl) rfl ?_
    refine TL.next ?_
    exact TC.back1 () rfl rfl (fun _ h => h)
end Go.Proofs.YtlhncphipfkkjaaGreatDoor

namespace Go.Proofs.YtlhncphipfkkjaaGreatDoor
open Go
theorem tarField_q (s : List UInt8) (n : Nat) (hn : n ≤ 1000000) : Quiet Tryz.prog 12 #[vS s, .int .i64 (n : Int)] [] (vS (padN s n)) := by
  refine Quiet.of_gives fun g Fr => ?_
  refine Gives.enter Tryz.func12 rfl Tryz.ntmps12 rfl ?_
  refine TC.seq ?_
  refine TC.region ?_
  refine TL.val (Yl.assign rfl) rfl ?_
  refine TL.next ?_
  refine TC.seq ?_
  refine TC.region ?_
  refine TL.val (Yl.move rfl) rfl ?_
  refine TL.eff (Eff.makeB Tryz.underlying40 sz5 by5 zr5 rfl rfl rfl rfl (by omega) (by omega)) rfl fun b7 => ?_
  refine TL.val (Yl.assign rfl) rfl ?_
  refine TL.next ?_
  refine TC.seq ?_
  refine TC.region ?_
  refine TL.val (Yl.move rfl) rfl ?_
  refine TL.val (Yl.move rfl) rfl ?_
  refine TL.eff (Eff.copyB (m := s.length) Tryz.underlying40 sz5 rfl rfl (by repeat (first | exact Foc.head | refine Foc.tail ?_)) Src.str rfl rfl (by rw [List.length_replicate, Nat.zero_add]; exact Nat.min_le_right _ _)) rfl fun _ => ?_
  refine TL.next ?_
  refine TC.seq ?_
  refine TC.region ?_
  refine TL.val (Yl.move rfl) rfl ?_
  refine TL.val (Yl.strB Tryz.underlying40 Tryz.underlying5 Tryz.underlying9 rfl (by repeat (first | exact Foc.head | refine Foc.tail ?_)) (pad_eq s n) (by rw [pad_len]; omega)) rfl ?_
  refine TL.val (Yl.assign rfl) rfl ?_
  refine TL.next ?_
  exact TC.back1 () rfl rfl (fun _ h => h.sub (by repeat (first | exact List.Sublist.refl _ | refine List.Sublist.cons _ ?_)))
theorem gzipFour_q (n : UInt32) : Quiet Tryz.prog 13 #[.int .u32 n.toNat] [] (vS (four n)) := by
  refine Quiet.of_gives fun g Fr => ?_
  refine Gives.enter Tryz.func13 rfl Tryz.ntmps13 rfl ?_
  refine TC.seq ?_
  refine TC.region ?_
  refine TL.val (Yl.assign rfl) rfl ?_
  refine TL.next ?_
  refine TC.seq ?_
  refine TC.region ?_
  refine TL.val (Yl.move rfl) rfl ?_
  refine TL.val (Yl.conv Tryz.underlying42 Tryz.underlying5 rfl (w8_u32 _)) rfl ?_
  refine TL.val (Yl.move rfl) rfl ?_
  refine TL.val (Yl.shr32 (c := 8) rfl rfl) rfl ?_
  refine TL.val (Yl.conv Tryz.underlying42 Tryz.underlying5 rfl (w8_u32 _)) rfl ?_
  refine TL.val (Yl.move rfl) rfl ?_
  refine TL.val (Yl.shr32 (c := 16) rfl rfl) rfl ?_
  refine TL.val (Yl.conv Tryz.underlying42 Tryz.underlying5 rfl (w8_u32 _)) rfl ?_
  refine TL.val (Yl.move rfl) rfl ?_
  refine TL.val (Yl.shr32 (c := 24) rfl rfl) rfl ?_
  refine TL.val (Yl.conv Tryz.underlying42 Tryz.underlying5 rfl (w8_u32 _)) rfl ?_
  refine TL.eff (Eff.lits1 [_, _, _, _] (vs := [_, _, _, _]) Tryz.underlying40 sz5 zr5 rfl ⟨rfl, rfl, rfl, rfl, trivial⟩ rfl rfl rfl) rfl fun b14 => ?_
  refine TL.val (Yl.strB (l := four n) Tryz.underlying40 Tryz.underlying5 Tryz.underlying9 rfl (by repeat (first | exact Foc.head | refine Foc.tail ?_)) rfl (Nat.le_refl 4)) rfl ?_
  refine TL.val (Yl.assign rfl) rfl ?_
  refine TL.next ?_
  exact TC.back1 () rfl rfl (fun _ h => h.sub (by repeat (first | exact List.Sublist.refl _ | refine List.Sublist.cons _ ?_)))
theorem hexes_q (x : Nat) : Quiet Tryz.prog 17 #[.int .i32 (x : Int)] [] (vS (hex4 x)) := by
  refine Quiet.of_gives fun g Fr => ?_
  refine Gives.enter Tryz.func17 rfl Tryz.ntmps17 rfl ?_
  refine TC.seq ?_
  refine TC.region ?_
  refine TL.val (Yl.assign rfl) rfl ?_
  refine TL.next ?_
  refine TC.seq ?_
  refine TC.region ?_
  refine TL.val (Yl.assign rfl) rfl ?_
  refine TL.next ?_
  refine TC.seq ?_
  refine TC.draws [] _ mixed (by kernel_rfl) rfl (fun _ h => h) ?_
  refine TA.pure 0 rfl (by kernel_rfl) (Yl.move rfl) rfl ?_
  refine TA.pure 1 rfl (by kernel_rfl) (Yl.move rfl) rfl ?_
  refine TA.pure 2 rfl (by kernel_rfl) (Yl.shrI (c := 12) rfl rfl rfl) rfl ?_
  refine TA.pure 3 rfl (by kernel_rfl) (Yl.mask 4 rfl rfl rfl rfl) rfl ?_
  refine TA.pure 4 rfl (by kernel_rfl) (Yl.idxS (a := hexDigits) Tryz.underlying9 rfl rfl (hexIdx x 12) (hexDig_get (Nat.mod_lt _ (by decide)))) rfl ?_
  refine TA.pure 5 rfl (by kernel_rfl) (Yl.move rfl) rfl ?_
  refine TA.pure 6 rfl (by kernel_rfl) (Yl.move rfl) rfl ?_
  refine TA.pure 7 rfl (by kernel_rfl) (Yl.shrI (c := 8) rfl rfl rfl) rfl ?_
  refine TA.pure 8 rfl (by kernel_rfl) (Yl.mask 4 rfl rfl rfl rfl) rfl ?_
  refine TA.pure 9 rfl (by kernel_rfl) (Yl.idxS (a := hexDigits) Tryz.underlying9 rfl rfl (hexIdx x 8) (hexDig_get (Nat.mod_lt _ (by decide)))) rfl ?_
  refine TA.pure 10 rfl (by kernel_rfl) (Yl.move rfl) rfl ?_
  refine TA.pure 11 rfl (by kernel_rfl) (Yl.move rfl) rfl ?_
  refine TA.pure 12 rfl (by kernel_rfl) (Yl.shrI (c := 4) rfl rfl rfl) rfl ?_
  refine TA.pure 13 rfl (by kernel_rfl) (Yl.mask 4 rfl rfl rfl rfl) rfl ?_
  refine TA.pure 14 rfl (by kernel_rfl) (Yl.idxS (a := hexDigits) Tryz.underlying9 rfl rfl (hexIdx x 4) (hexDig_get (Nat.mod_lt _ (by decide)))) rfl ?_
  refine TA.pure 15 rfl (by kernel_rfl) (Yl.move rfl) rfl ?_
  refine TA.pure 16 rfl (by kernel_rfl) (Yl.move rfl) rfl ?_
  refine TA.pure 17 rfl (by kernel_rfl) (Yl.mask 4 rfl rfl rfl rfl) rfl ?_
  refine TA.pure 18 rfl (by kernel_rfl) (Yl.idxS (a := hexDigits) Tryz.underlying9 rfl rfl (hexIdx0 x) (hexDig_get (Nat.mod_lt _ (by decide)))) rfl ?_
  refine TA.one 19 (by kernel_rfl) ?_
  refine Up.eff rfl rfl (Eff.lits1 [_, _, _, _] (vs := [_, _, _, _]) Tryz.underlying40 sz5 zr5 rfl ⟨rfl, rfl, rfl, rfl, trivial⟩ rfl rfl rfl) rfl (fun _ => .inr (fun _ h => h.sub (by repeat (first | exact List.Sublist.refl _ | refine List.Sublist.cons _ ?_)))) fun b23 => ?_
  refine TA.one 20 (by kernel_rfl) ?_
  refine Up.val rfl rfl (Yl.strB (l := hex4 x) Tryz.underlying40 Tryz.underlying5 Tryz.underlying9 rfl (by repeat (first | exact Foc.head | refine Foc.tail ?_)) rfl (Nat.le_refl 4)) rfl (.inr (fun _ h => h.sub (by repeat (first | exact List.Sublist.refl _ | refine List.Sublist.cons _ ?_)))) ?_
  refine TA.pure 21 rfl (by kernel_rfl) (Yl.assign rfl) rfl ?_
  refine TA.next (by kernel_rfl) ?_
  exact TC.back1 () rfl rfl (fun _ h => h.sub (by repeat (first | exact List.Sublist.refl _ | refine List.Sublist.cons _ ?_)))
theorem tarOctal_q (n digits : Nat) (hd : digits ≤ 1000) (hn : n < 4611686018427387904) : Quiet Tryz.prog 21 #[.int .i64 (n : Int), .int .i64 (digits : Int)] [] (vS (octal n digits)) := by
  refine Quiet.of_gives fun g Fr => ?_
  refine Gives.enter Tryz.func21 rfl Tryz.ntmps21 rfl ?_
  refine TC.seq ?_
  refine TC.region ?_
  refine TL.val (Yl.assign rfl) rfl ?_
  refine TL.next ?_
  refine TC.seq ?_
  refine TC.region ?_
  refine TL.val (Yl.move rfl) rfl ?_
  refine TL.val (Yl.add rfl rfl (wI (by omega))) rfl ?_
  refine TL.eff (Eff.makeB (i := digits + 1) (j := digits + 1) Tryz.underlying40 sz5 by5 zr5 rfl rfl rfl rfl (by omega) (by omega)) rfl fun b9 => ?_
  refine TL.val (Yl.assign rfl) rfl ?_
  refine TL.next ?_
  refine TC.seq ?_
  refine TC.seq ?_
  rw [← octB_zero n digits]
  refine TC.region ?_
  refine TL.val (Yl.move rfl) rfl ?_
  refine TL.val (Yl.sub rfl rfl (wI (by omega))) rfl ?_
  refine TL.val (Yl.assign rfl) rfl ?_
  refine TL.next ?_
  refine TC.block ?_
  refine TC.loopI (σ := Nat) (fun k => [(0, .int .i64 ((n / 8 ^ k : Nat) : Int)), (5, sl b9 0 (digits + 1) (digits + 1)), (6, .int .i64 ((digits : Int) - 1 - (k : Int)))]) (fun k => (b9, oC (bV (octB n digits k)) 5) :: Fr) (fun k => k ≤ digits) (fun k => digits - k) 0 ⟨(by rw [Nat.pow_zero, Nat.div_one]; rfl), rfl, (congrArg (fun z => some (Value.int .i64 z)) (by omega)), trivial⟩ (fun _ h => h) (Nat.zero_le _) (fun k hk => ?_)
  refine TC.seq ?_
  refine TC.seq ?_
  refine TC.region ?_
  refine TL.val (Yl.move rfl) rfl ?_
  refine TL.val (Yl.geq rfl rfl rfl) rfl ?_
  refine TL.next ?_
  refine TC.cond rfl (fun hc13 => ?_) (fun hc13 => ?_)
  · replace hc13 := of_decide_eq_true hc13
    refine TC.skip_next ?_
    refine TC.seq ?_
    refine TC.block ?_
    refine TC.seq ?_
    refine TC.region ?_
    refine TL.val (Yl.move rfl) rfl ?_
    refine TL.val (Yl.move rfl) rfl ?_
    refine TL.val (Yl.move rfl) rfl ?_
    refine TL.val (Yl.mask 3 rfl rfl rfl rfl) rfl ?_
    refine TL.val (Yl.add rfl rfl (wI (by omega))) rfl ?_
    refine TL.val (Yl.conv Tryz.underlying3 Tryz.underlying5 rfl (w8 _)) rfl ?_
    refine TL.val (Yl.idxAddrS (j := digits - 1 - k) (o := digits - 1 - k) Tryz.underlying40 sz5 rfl rfl (by omega) (by omega) (by omega)) rfl ?_
    refine TL.skp (Skp.store1 sz5 rfl rfl rfl (by repeat (first | exact Foc.head | refine Foc.tail ?_)) (by rw [bV_length, octB_length hk]; omega) ((bV_set _ _ _).trans (congrArg bV (octB_set (by omega))))) ?_
    refine TL.next ?_
    refine TC.region ?_
    refine TL.val (Yl.move rfl) rfl ?_
    refine TL.val (Yl.shrI (c := 3) rfl rfl rfl) rfl ?_
    refine TL.val (Yl.assign rfl) rfl ?_
    refine TL.next ?_
    refine TC.region ?_
    refine TL.val (Yl.move rfl) rfl ?_
    refine TL.val (Yl.sub rfl rfl (wI (by omega))) rfl ?_
    refine TL.val (Yl.assign rfl) rfl ?_
    exact TL.done (Inv.again (k + 1) (by omega) (by omega) ⟨(congrArg (fun z => some (Value.int .i64 z)) (oct_div n k)), rfl, (congrArg (fun z => some (Value.int .i64 z)) (by omega)), trivial⟩ (fun _ h => h))
  · replace hc13 := of_decide_eq_false hc13
    refine TC.exit_next rfl ?_
    refine TC.seq ?_
    obtain rfl : k = digits := by omega
    refine TC.region ?_
    refine TL.val (Yl.move rfl) rfl ?_
    refine TL.val (Yl.strB Tryz.underlying40 Tryz.underlying5 Tryz.underlying9 rfl (by repeat (first | exact Foc.head | refine Foc.tail ?_)) (m := octal n k) (by rw [List.drop_zero, List.take_of_length_le (by rw [octB_length hk]; exact Nat.le_refl _)]; simp [octB, octal]) (by rw [octB_length hk]; omega)) rfl ?_
    refine TL.val (Yl.assign rfl) rfl ?_
    refine TL.next ?_
    exact TC.back1 () rfl rfl (fun _ h => h.sub (by repeat (first | exact List.Sublist.refl _ | refine List.Sublist.cons _ ?_)))
end Go.Proofs.YtlhncphipfkkjaaGreatDoor

namespace Go.Proofs.YtlhncphipfkkjaaGreatDoor
open Go
set_option maxRecDepth 10000 in
theorem shaWords_q : Quiet Tryz.prog 15 #[] [] (.agg ⟨wV kTab⟩) := by
  refine Quiet.of_gives fun g Fr => ?_
  refine Gives.enter Tryz.func15 rfl Tryz.ntmps15 rfl ?_
  refine TC.seq ?_
  refine TC.region ?_
  refine TL.eff (Eff.alloc (zs := wV (List.replicate 64 0)) zr47 rfl) rfl fun b0 => ?_
  refine TL.next ?_
  refine TC.seq ?_
  refine TC.region ?_
  refine TL.val (Yl.buildA (vs := wV kTab) (zs := wV (List.replicate 64 0)) [_, _, _, _, _, _, _, _, _, _, _, _, _, _, _, _, _, _, _, _, _, _, _, _, _, _, _, _, _, _, _, _, _, _, _, _, _, _, _, _, _, _, _, _, _, _, _, _, _, _, _, _, _, _, _, _, _, _, _, _, _, _, _, _] Tryz.underlying47 sz42 zr47 rfl rfl rfl ⟨rfl, rfl, rfl, rfl, rfl, rfl, rfl, rfl, rfl, rfl, rfl, rfl, rfl, rfl, rfl, rfl, rfl, rfl, rfl, rfl, rfl, rfl, rfl, rfl, rfl, rfl, rfl, rfl, rfl, rfl, rfl, rfl, rfl, rfl, rfl, rfl, rfl, rfl, rfl, rfl, rfl, rfl, rfl, rfl, rfl, rfl, rfl, rfl, rfl, rfl, rfl, rfl, rfl, rfl, rfl, rfl, rfl, rfl, rfl, rfl, rfl, rfl, rfl, rfl, trivial⟩ rfl) rfl ?_
  refine TL.skp (Skp.storeA (vs := wV kTab) (cs' := wV kTab) sz47 rfl rfl rfl (by repeat (first | exact Foc.head | apply Foc.tail)) (Nat.le_of_ble_eq_true rfl) rfl) ?_
  refine TL.next ?_
  exact TC.backC () rfl rfl Tryz.underlying47 rfl (vs := wV kTab) sz47 (by repeat (first | exact Foc.head | apply Foc.tail)) rfl rfl (fun _ h => h.sub (by repeat (first | exact List.Sublist.refl _ | refine List.Sublist.cons _ ?_)))
theorem sched_spec (s : List UInt8) : ∃ SS SW : Nat → List UInt32, wV (List.replicate 64 0) = wV (SW 0) ∧ (∀ n, n ≤ 64 → (SW n).length = 64) ∧
    (∀ n j, j < n → n ≤ 64 → (wV (SW n))[j]? = some (.int .u32 (((SS n).getD j 0).toNat : Int))) ∧
    (∀ n x, n < 64 → (x = if n < 16 then be32 s n else (SS n).getD (n - 16) 0 + (SS n).getD (n - 7) 0 + sg0 ((SS n).getD (n - 15) 0) + sg1 ((SS n).getD (n - 2) 0)) → (wV (SW n)).set n (.int .u32 (x.toNat : Int)) = wV (SW (n + 1))) ∧ sched s 64 = SS 64 :=
  ⟨sched s, schedW s, rfl, fun _ h => schedW_length h, fun _ _ h h' => schedW_get h h', fun _ _ h h' => schedW_set h h', rfl⟩

attribute [local irreducible] kTab
set_option maxRecDepth 10000 in
theorem shaBlock_g (h : V8) (s : List UInt8) (hs : s.length = 64) (bh bk : Nat) (g : World) (Fr : HL) : Gives Tryz.prog 16 #[pt bh 0, vS s, pt bk 0] g ((bh, oC (v8C h) 46) :: (bk, oC (wV kTab) 47) :: Fr) Unit (fun _ => .tuple #[])
    (fun _ => (bh, oC (v8C (comp h s)) 46) :: (bk, oC (wV kTab) 47) :: Fr) := by
  refine Gives.enter Tryz.func16 rfl Tryz.ntmps16 rfl ?_
  obtain ⟨R, hR0, hR1, hRc⟩ : ∃ R : Nat → V8, R 0 = h ∧ (∀ i, R (i + 1) = rnd (kTab.getD i 0) ((sched s 64).getD i 0) (R i)) ∧ comp h s = addV h (R 64) := ⟨fun i => rounds s i h, rfl, fun _ => rfl, rfl⟩
  obtain ⟨SS, SW, hS0, hSl, hSg, hSs, hS64⟩ := sched_spec s
  rw [hS64] at hR1
  generalize hc0 : comp h s = cc at *
  subst hRc
  refine TC.seq ?_
  refine TC.region ?_
  refine TL.eff (Eff.alloc (zs := wV (SW 0)) zr47 (Eq.trans (b := ⟨wV (List.replicate 64 0)⟩) rfl (congrArg Array.mk hS0))) rfl fun b6 => ?_
  refine TL.next ?_
  refine TC.seq ?_
  refine TC.seq ?_
  refine TC.region ?_
  refine TL.val (Yl.move rfl) rfl ?_
  refine TL.next ?_
  refine TC.block ?_
  refine TC.loopI (σ := Nat) (fun i => [(0, pt bh 0), (1, vS s), (2, pt bk 0), (6, pt b6 0), (16, .int .i64 (i : Int))]) (fun i => (b6, oC (wV (SW i)) 47) :: (bh, oC (v8C h) 46) :: (bk, oC (wV kTab) 47) :: Fr) (fun i => i ≤ 16) (fun i => 16 - i) 0 ⟨rfl, rfl, rfl, rfl, rfl, trivial⟩ (fun _ h => h) (Nat.zero_le _) (fun i hi => ?_)
  refine TC.seq ?_
  refine TC.region ?_
  refine TL.val (Yl.lss rfl rfl rfl) rfl ?_
  refine TL.next ?_
  refine TC.seq ?_
  refine TC.cond rfl (fun hc17 => ?_) (fun hc17 => ?_)
  · replace hc17 := of_decide_eq_true hc17
    refine TC.skip_next ?_
    refine TC.seq ?_
    refine TC.block ?_
    refine TC.seq ?_
    refine TC.region ?_
    refine TL.val (Yl.move rfl) rfl ?_
    refine TL.val (Yl.assign rfl) rfl ?_
    refine TL.next ?_
    refine TC.draws [31] _ mixed (by kernel_rfl) rfl (fun _ h => h) ?_
    refine TA.pure 0 rfl (by kernel_rfl) (Yl.move rfl) rfl ?_
    refine TA.pure 1 rfl (by kernel_rfl) (Yl.move rfl) rfl ?_
    refine TA.pure 2 rfl (by kernel_rfl) (Yl.move rfl) rfl ?_
    refine TA.pure 3 rfl (by kernel_rfl) (Yl.mul rfl rfl (wI (by omega))) rfl ?_
    refine TA.pure 4 rfl (by kernel_rfl) (Yl.idxS (j := 4 * i + 0) Tryz.underlying9 rfl rfl (by omega) (byteAt_get (by omega))) rfl ?_
    refine TA.pure 5 rfl (by kernel_rfl) (Yl.conv Tryz.underlying5 Tryz.underlying42 rfl (w32_u8 _)) rfl ?_
    refine TA.pure 6 rfl (by kernel_rfl) (Yl.shl32 (c := 24) rfl rfl) rfl ?_
    refine TA.pure 7 rfl (by kernel_rfl) (Yl.move rfl) rfl ?_
    refine TA.pure 8 rfl (by kernel_rfl) (Yl.move rfl) rfl ?_
    refine TA.pure 9 rfl (by kernel_rfl) (Yl.mul rfl rfl (wI (by omega))) rfl ?_
    refine TA.pure 10 rfl (by kernel_rfl) (Yl.add rfl rfl (wI (by omega))) rfl ?_
    refine TA.pure 11 rfl (by kernel_rfl) (Yl.idxS (j := 4 * i + 1) Tryz.underlying9 rfl rfl (by omega) (byteAt_get (by omega))) rfl ?_
    refine TA.pure 12 rfl (by kernel_rfl) (Yl.conv Tryz.underlying5 Tryz.underlying42 rfl (w32_u8 _)) rfl ?_
    refine TA.pure 13 rfl (by kernel_rfl) (Yl.shl32 (c := 16) rfl rfl) rfl ?_
    refine TA.pure 14 rfl (by kernel_rfl) (Yl.or32  rfl rfl) rfl ?_
    refine TA.pure 15 rfl (by kernel_rfl) (Yl.move rfl) rfl ?_
    refine TA.pure 16 rfl (by kernel_rfl) (Yl.move rfl) rfl ?_
    refine TA.pure 17 rfl (by kernel_rfl) (Yl.mul rfl rfl (wI (by omega))) rfl ?_
    refine TA.pure 18 rfl (by kernel_rfl) (Yl.add rfl rfl (wI (by omega))) rfl ?_
    refine TA.pure 19 rfl (by kernel_rfl) (Yl.idxS (j := 4 * i + 2) Tryz.underlying9 rfl rfl (by omega) (byteAt_get (by omega))) rfl ?_
    refine TA.pure 20 rfl (by kernel_rfl) (Yl.conv Tryz.underlying5 Tryz.underlying42 rfl (w32_u8 _)) rfl ?_
    refine TA.pure 21 rfl (by kernel_rfl) (Yl.shl32 (c := 8) rfl rfl) rfl ?_
    refine TA.pure 22 rfl (by kernel_rfl) (Yl.or32  rfl rfl) rfl ?_
    refine TA.pure 23 rfl (by kernel_rfl) (Yl.move rfl) rfl ?_
    refine TA.pure 24 rfl (by kernel_rfl) (Yl.move rfl) rfl ?_
    refine TA.pure 25 rfl (by kernel_rfl) (Yl.mul rfl rfl (wI (by omega))) rfl ?_
    refine TA.pure 26 rfl (by kernel_rfl) (Yl.add rfl rfl (wI (by omega))) rfl ?_
    refine TA.pure 27 rfl (by kernel_rfl) (Yl.idxS (j := 4 * i + 3) Tryz.underlying9 rfl rfl (by omega) (byteAt_get (by omega))) rfl ?_
    refine TA.pure 28 rfl (by kernel_rfl) (Yl.conv Tryz.underlying5 Tryz.underlying42 rfl (w32_u8 _)) rfl ?_
    refine TA.pure 29 rfl (by kernel_rfl) (Yl.or32  rfl rfl) rfl ?_
    refine TA.pure 30 rfl (by kernel_rfl) (Yl.idxAddrA (j := i) (o := i) Tryz.underlying47 sz42 rfl rfl rfl (by omega) (by omega)) rfl ?_
    refine TA.one 31 (by kernel_rfl) ?_
    refine Up.skp rfl rfl (Skp.store1 sz42 rfl rfl rfl (by repeat (first | exact Foc.head | apply Foc.tail)) (by rw [wV_length, hSl _ (by omega)]; omega) (hSs _ _ (by omega) (by rw [if_pos (by omega)]; rfl))) (.inl rfl) ?_
    refine TA.next (by kernel_rfl) ?_
    refine TC.region ?_
    refine TL.val (Yl.add rfl rfl (wI (by omega))) rfl ?_
    refine TL.val (Yl.move rfl) rfl ?_
    exact TL.done (Inv.again (i + 1) (by omega) (by omega) ⟨rfl, rfl, rfl, rfl, rfl, trivial⟩ (fun _ h => h))
  · replace hc17 := of_decide_eq_false hc17
    refine TC.exit_next rfl ?_
    refine TC.seq ?_
    refine TC.seq ?_
    obtain rfl : i = 16 := by omega
    refine TC.region ?_
    refine TL.val (Yl.assign rfl) rfl ?_
    refine TL.next ?_
    refine TC.block ?_
    refine TC.loopI (σ := Nat) (fun i => [(0, pt bh 0), (1, vS s), (2, pt bk 0), (6, pt b6 0), (8, .int .i64 (i : Int))]) (fun i => (b6, oC (wV (SW i)) 47) :: (bh, oC (v8C h) 46) :: (bk, oC (wV kTab) 47) :: Fr) (fun i => 16 ≤ i ∧ i ≤ 64) (fun i => 64 - i) 16 ⟨rfl, rfl, rfl, rfl, rfl, trivial⟩ (fun _ h => h) (by omega) (fun i hi => ?_)
    refine TC.seq ?_
    refine TC.seq ?_
    refine TC.region ?_
    refine TL.val (Yl.move rfl) rfl ?_
    refine TL.val (Yl.lss rfl rfl rfl) rfl ?_
    refine TL.next ?_
    refine TC.cond rfl (fun hc52 => ?_) (fun hc52 => ?_)
    · replace hc52 := of_decide_eq_true hc52
      refine TC.skip_next ?_
      refine TC.seq ?_
      refine TC.block ?_
      refine TC.seq ?_
      refine TC.draws [] _ mixed (by kernel_rfl) rfl (fun _ h => h) ?_
      refine TA.pure 0 rfl (by kernel_rfl) (Yl.move rfl) rfl ?_
      refine TA.pure 1 rfl (by kernel_rfl) (Yl.sub rfl rfl (wI (by omega))) rfl ?_
      refine TA.pure 2 rfl (by kernel_rfl) (Yl.idxAddrA (j := i - 15) (o := i - 15) Tryz.underlying47 sz42 rfl rfl (by omega) (by omega) (by omega)) rfl ?_
      refine TA.load 3 rfl (by kernel_rfl) (Yl.load1 Tryz.underlying42 rfl rfl (by repeat (first | exact Foc.head | apply Foc.tail)) (hSg _ _ (by omega) (by omega))) rfl ?_
      refine TA.pure 4 rfl (by kernel_rfl) (Yl.move rfl) rfl ?_
      refine TA.pure 5 rfl (by kernel_rfl) (Yl.sub rfl rfl (wI (by omega))) rfl ?_
      refine TA.pure 6 rfl (by kernel_rfl) (Yl.idxAddrA (j := i - 2) (o := i - 2) Tryz.underlying47 sz42 rfl rfl (by omega) (by omega) (by omega)) rfl ?_
      refine TA.load 7 rfl (by kernel_rfl) (Yl.load1 Tryz.underlying42 rfl rfl (by repeat (first | exact Foc.head | apply Foc.tail)) (hSg _ _ (by omega) (by omega))) rfl ?_
      refine TA.pure 8 rfl (by kernel_rfl) (Yl.assign rfl) rfl ?_
      refine TA.pure 9 rfl (by kernel_rfl) (Yl.assign rfl) rfl ?_
      refine TA.next (by kernel_rfl) ?_
      refine TC.draws [29] _ mixed (by kernel_rfl) rfl (fun _ h => h) ?_
      refine TA.pure 0 rfl (by kernel_rfl) (Yl.move rfl) rfl ?_
      refine TA.pure 1 rfl (by kernel_rfl) (Yl.move rfl) rfl ?_
      refine TA.pure 2 rfl (by kernel_rfl) (Yl.sub rfl rfl (wI (by omega))) rfl ?_
      refine TA.pure 3 rfl (by kernel_rfl) (Yl.idxAddrA (j := i - 16) (o := i - 16) Tryz.underlying47 sz42 rfl rfl (by omega) (by omega) (by omega)) rfl ?_
      refine TA.load 4 rfl (by kernel_rfl) (Yl.load1 Tryz.underlying42 rfl rfl (by repeat (first | exact Foc.head | apply Foc.tail)) (hSg _ _ (by omega) (by omega))) rfl ?_
      refine TA.pure 5 rfl (by kernel_rfl) (Yl.move rfl) rfl ?_
      refine TA.pure 6 rfl (by kernel_rfl) (Yl.sub rfl rfl (wI (by omega))) rfl ?_
      refine TA.pure 7 rfl (by kernel_rfl) (Yl.idxAddrA (j := i - 7) (o := i - 7) Tryz.underlying47 sz42 rfl rfl (by omega) (by omega) (by omega)) rfl ?_
      refine TA.load 8 rfl (by kernel_rfl) (Yl.load1 Tryz.underlying42 rfl rfl (by repeat (first | exact Foc.head | apply Foc.tail)) (hSg _ _ (by omega) (by omega))) rfl ?_
      refine TA.pure 9 rfl (by kernel_rfl) (Yl.add rfl rfl (w32_add _ _)) rfl ?_
      refine TA.pure 10 rfl (by kernel_rfl) (Yl.move rfl) rfl ?_
      refine TA.quiet 11 rfl (by kernel_rfl) (Cll.func (xs := [_, _]) (vs := [_, _]) Tryz.func22 rfl (by kernel_rfl) ⟨rfl, rfl, trivial⟩) rfl (Quiet.none (turn_q _ 7 (by decide))) ?_
      refine TA.pure 12 rfl (by kernel_rfl) (Yl.move rfl) rfl ?_
      refine TA.quiet 13 rfl (by kernel_rfl) (Cll.func (xs := [_, _]) (vs := [_, _]) Tryz.func22 rfl (by kernel_rfl) ⟨rfl, rfl, trivial⟩) rfl (Quiet.none (turn_q _ 18 (by decide))) ?_
      refine TA.pure 14 rfl (by kernel_rfl) (Yl.xor32  rfl rfl) rfl ?_
      refine TA.pure 15 rfl (by kernel_rfl) (Yl.move rfl) rfl ?_
      refine TA.pure 16 rfl (by kernel_rfl) (Yl.shr32 (c := 3) rfl rfl) rfl ?_
      refine TA.pure 17 rfl (by kernel_rfl) (Yl.xor32  rfl rfl) rfl ?_
      refine TA.pure 18 rfl (by kernel_rfl) (Yl.add rfl rfl (w32_add _ _)) rfl ?_
      refine TA.pure 19 rfl (by kernel_rfl) (Yl.move rfl) rfl ?_
      refine TA.quiet 20 rfl (by kernel_rfl) (Cll.func (xs := [_, _]) (vs := [_, _]) Tryz.func22 rfl (by kernel_rfl) ⟨rfl, rfl, trivial⟩) rfl (Quiet.none (turn_q _ 17 (by decide))) ?_
      refine TA.pure 21 rfl (by kernel_rfl) (Yl.move rfl) rfl ?_
      refine TA.quiet 22 rfl (by kernel_rfl) (Cll.func (xs := [_, _]) (vs := [_, _]) Tryz.func22 rfl (by kernel_rfl) ⟨rfl, rfl, trivial⟩) rfl (Quiet.none (turn_q _ 19 (by decide))) ?_
      refine TA.pure 23 rfl (by kernel_rfl) (Yl.xor32  rfl rfl) rfl ?_
      refine TA.pure 24 rfl (by kernel_rfl) (Yl.move rfl) rfl ?_
      refine TA.pure 25 rfl (by kernel_rfl) (Yl.shr32 (c := 10) rfl rfl) rfl ?_
      refine TA.pure 26 rfl (by kernel_rfl) (Yl.xor32  rfl rfl) rfl ?_
      refine TA.pure 27 rfl (by kernel_rfl) (Yl.add rfl rfl (w32_add _ _)) rfl ?_
      refine TA.pure 28 rfl (by kernel_rfl) (Yl.idxAddrA (j := i) (o := i) Tryz.underlying47 sz42 rfl rfl rfl (by omega) (by omega)) rfl ?_
      refine TA.one 29 (by kernel_rfl) ?_
      refine Up.skp rfl rfl (Skp.store1 sz42 rfl rfl rfl (by repeat (first | exact Foc.head | apply Foc.tail)) (by rw [wV_length, hSl _ (by omega)]; omega) (hSs _ _ (by omega) (by rw [if_neg (by omega)]; rfl))) (.inl rfl) ?_
      refine TA.next (by kernel_rfl) ?_
      refine TC.region ?_
      refine TL.val (Yl.move rfl) rfl ?_
      refine TL.val (Yl.add rfl rfl (wI (by omega))) rfl ?_
      refine TL.val (Yl.assign rfl) rfl ?_
      exact TL.done (Inv.again (i + 1) (by omega) (by omega) ⟨rfl, rfl, rfl, rfl, rfl, trivial⟩ (fun _ h => h))
    · replace hc52 := of_decide_eq_false hc52
      refine TC.exit_next rfl ?_
      refine TC.seq ?_
      obtain rfl : i = 64 := by omega
      refine TC.region ?_
      refine TL.val (Yl.move rfl) rfl ?_
      refine TL.val (Yl.nilCheckP rfl) rfl ?_
      refine TL.val (Yl.loadA (vs := [_, _, _, _, _, _, _, _]) Tryz.underlying46 rfl sz46 rfl (by repeat (first | exact Foc.head | apply Foc.tail)) rfl) rfl ?_
      refine TL.eff (Eff.alloc zr46 rfl) rfl fun b11 => ?_
      refine TL.skp (Skp.storeA (vs := [_, _, _, _, _, _, _, _]) sz46 rfl rfl rfl (by repeat (first | exact Foc.head | apply Foc.tail)) (Nat.le_of_ble_eq_true rfl) rfl) ?_
      refine TL.next ?_
      refine TC.seq ?_
      refine TC.seq ?_
      refine TC.region ?_
      refine TL.val (Yl.move rfl) rfl ?_
      refine TL.next ?_
      refine TC.block ?_
      refine TC.loopI (σ := Nat) (fun i => [(0, pt bh 0), (1, vS s), (2, pt bk 0), (6, pt b6 0), (11, pt b11 0), (95, .int .i64 (i : Int))]) (fun i => (b11, oC (v8C (R i)) 46) :: (b6, oC (wV (SW 64)) 47) :: (bh, oC (v8C h) 46) :: (bk, oC (wV kTab) 47) :: Fr) (fun i => i ≤ 64) (fun i => 64 - i) 0 ⟨rfl, rfl, rfl, rfl, rfl, rfl, trivial⟩ (fun _ h => by rw [hR0]; exact h) (Nat.zero_le _) (fun i hi => ?_)
      refine TC.seq ?_
      refine TC.region ?_
      refine TL.val (Yl.lss rfl rfl rfl) rfl ?_
      refine TL.next ?_
      refine TC.seq ?_
      refine TC.cond rfl (fun hc96 => ?_) (fun hc96 => ?_)
      · replace hc96 := of_decide_eq_true hc96
        refine TC.skip_next ?_
        refine TC.seq ?_
        refine TC.block ?_
        refine TC.seq ?_
        refine TC.region ?_
        refine TL.val (Yl.move rfl) rfl ?_
        refine TL.val (Yl.assign rfl) rfl ?_
        refine TL.next ?_
        refine TC.seq ?_
        refine TC.draws [] _ mixed (by kernel_rfl) rfl (fun _ h => h) ?_
        refine TA.pure 0 rfl (by kernel_rfl) (Yl.idxAddrA (j := 7) (o := 7) Tryz.underlying46 sz42 rfl rfl rfl (Nat.le_of_ble_eq_true rfl) rfl) rfl ?_
        refine TA.load 1 rfl (by kernel_rfl) (Yl.load1 Tryz.underlying42 rfl rfl (by repeat (first | exact Foc.head | apply Foc.tail)) rfl) rfl ?_
        refine TA.pure 2 rfl (by kernel_rfl) (Yl.idxAddrA (j := 4) (o := 4) Tryz.underlying46 sz42 rfl rfl rfl (Nat.le_of_ble_eq_true rfl) rfl) rfl ?_
        refine TA.load 3 rfl (by kernel_rfl) (Yl.load1 Tryz.underlying42 rfl rfl (by repeat (first | exact Foc.head | apply Foc.tail)) rfl) rfl ?_
        refine TA.quiet 4 rfl (by kernel_rfl) (Cll.func (xs := [_, _]) (vs := [_, _]) Tryz.func22 rfl (by kernel_rfl) ⟨rfl, rfl, trivial⟩) rfl (Quiet.none (turn_q _ 6 (by decide))) ?_
        refine TA.pure 5 rfl (by kernel_rfl) (Yl.idxAddrA (j := 4) (o := 4) Tryz.underlying46 sz42 rfl rfl rfl (Nat.le_of_ble_eq_true rfl) rfl) rfl ?_
        refine TA.load 6 rfl (by kernel_rfl) (Yl.load1 Tryz.underlying42 rfl rfl (by repeat (first | exact Foc.head | apply Foc.tail)) rfl) rfl ?_
        refine TA.quiet 7 rfl (by kernel_rfl) (Cll.func (xs := [_, _]) (vs := [_, _]) Tryz.func22 rfl (by kernel_rfl) ⟨rfl, rfl, trivial⟩) rfl (Quiet.none (turn_q _ 11 (by decide))) ?_
        refine TA.pure 8 rfl (by kernel_rfl) (Yl.xor32  rfl rfl) rfl ?_
        refine TA.pure 9 rfl (by kernel_rfl) (Yl.idxAddrA (j := 4) (o := 4) Tryz.underlying46 sz42 rfl rfl rfl (Nat.le_of_ble_eq_true rfl) rfl) rfl ?_
        refine TA.load 10 rfl (by kernel_rfl) (Yl.load1 Tryz.underlying42 rfl rfl (by repeat (first | exact Foc.head | apply Foc.tail)) rfl) rfl ?_
        refine TA.quiet 11 rfl (by kernel_rfl) (Cll.func (xs := [_, _]) (vs := [_, _]) Tryz.func22 rfl (by kernel_rfl) ⟨rfl, rfl, trivial⟩) rfl (Quiet.none (turn_q _ 25 (by decide))) ?_
        refine TA.pure 12 rfl (by kernel_rfl) (Yl.xor32  rfl rfl) rfl ?_
        refine TA.pure 13 rfl (by kernel_rfl) (Yl.add rfl rfl (w32_add _ _)) rfl ?_
        refine TA.pure 14 rfl (by kernel_rfl) (Yl.idxAddrA (j := 4) (o := 4) Tryz.underlying46 sz42 rfl rfl rfl (Nat.le_of_ble_eq_true rfl) rfl) rfl ?_
        refine TA.load 15 rfl (by kernel_rfl) (Yl.load1 Tryz.underlying42 rfl rfl (by repeat (first | exact Foc.head | apply Foc.tail)) rfl) rfl ?_
        refine TA.pure 16 rfl (by kernel_rfl) (Yl.idxAddrA (j := 5) (o := 5) Tryz.underlying46 sz42 rfl rfl rfl (Nat.le_of_ble_eq_true rfl) rfl) rfl ?_
        refine TA.load 17 rfl (by kernel_rfl) (Yl.load1 Tryz.underlying42 rfl rfl (by repeat (first | exact Foc.head | apply Foc.tail)) rfl) rfl ?_
        refine TA.pure 18 rfl (by kernel_rfl) (Yl.and32  rfl rfl) rfl ?_
        refine TA.pure 19 rfl (by kernel_rfl) (Yl.idxAddrA (j := 4) (o := 4) Tryz.underlying46 sz42 rfl rfl rfl (Nat.le_of_ble_eq_true rfl) rfl) rfl ?_
        refine TA.load 20 rfl (by kernel_rfl) (Yl.load1 Tryz.underlying42 rfl rfl (by repeat (first | exact Foc.head | apply Foc.tail)) rfl) rfl ?_
        refine TA.pure 21 rfl (by kernel_rfl) (Yl.not32 rfl) rfl ?_
        refine TA.pure 22 rfl (by kernel_rfl) (Yl.idxAddrA (j := 6) (o := 6) Tryz.underlying46 sz42 rfl rfl rfl (Nat.le_of_ble_eq_true rfl) rfl) rfl ?_
        refine TA.load 23 rfl (by kernel_rfl) (Yl.load1 Tryz.underlying42 rfl rfl (by repeat (first | exact Foc.head | apply Foc.tail)) rfl) rfl ?_
        refine TA.pure 24 rfl (by kernel_rfl) (Yl.and32  rfl rfl) rfl ?_
        refine TA.pure 25 rfl (by kernel_rfl) (Yl.xor32  rfl rfl) rfl ?_
        refine TA.pure 26 rfl (by kernel_rfl) (Yl.add rfl rfl (w32_add _ _)) rfl ?_
        refine TA.pure 27 rfl (by kernel_rfl) (Yl.move rfl) rfl ?_
        refine TA.pure 28 rfl (by kernel_rfl) (Yl.move rfl) rfl ?_
        refine TA.pure 29 rfl (by kernel_rfl) (Yl.nilCheckP rfl) rfl ?_
        refine TA.pure 30 rfl (by kernel_rfl) (Yl.idxAddrA (j := i) (o := i) Tryz.underlying47 sz42 rfl rfl rfl (by omega) (by omega)) rfl ?_
        refine TA.load 31 rfl (by kernel_rfl) (Yl.load1 Tryz.underlying42 rfl rfl (by repeat (first | exact Foc.head | apply Foc.tail)) (wV_get (l := kTab) (by rw [kTab_length]; omega))) rfl ?_
        refine TA.pure 32 rfl (by kernel_rfl) (Yl.add rfl rfl (w32_add _ _)) rfl ?_
        refine TA.pure 33 rfl (by kernel_rfl) (Yl.move rfl) rfl ?_
        refine TA.pure 34 rfl (by kernel_rfl) (Yl.idxAddrA (j := i) (o := i) Tryz.underlying47 sz42 rfl rfl rfl (by omega) (by omega)) rfl ?_
        refine TA.load 35 rfl (by kernel_rfl) (Yl.load1 Tryz.underlying42 rfl rfl (by repeat (first | exact Foc.head | apply Foc.tail)) (hSg _ _ (by omega) (by omega))) rfl ?_
        refine TA.pure 36 rfl (by kernel_rfl) (Yl.add rfl rfl (w32_add _ _)) rfl ?_
        refine TA.pure 37 rfl (by kernel_rfl) (Yl.assign rfl) rfl ?_
        refine TA.next (by kernel_rfl) ?_
        refine TC.seq ?_
        refine TC.draws [] _ mixed (by kernel_rfl) rfl (fun _ h => h) ?_
        refine TA.pure 0 rfl (by kernel_rfl) (Yl.idxAddrA (j := 0) (o := 0) Tryz.underlying46 sz42 rfl rfl rfl (Nat.le_of_ble_eq_true rfl) rfl) rfl ?_
        refine TA.load 1 rfl (by kernel_rfl) (Yl.load1 Tryz.underlying42 rfl rfl (by repeat (first | exact Foc.head | apply Foc.tail)) rfl) rfl ?_
        refine TA.quiet 2 rfl (by kernel_rfl) (Cll.func (xs := [_, _]) (vs := [_, _]) Tryz.func22 rfl (by kernel_rfl) ⟨rfl, rfl, trivial⟩) rfl (Quiet.none (turn_q _ 2 (by decide))) ?_
        refine TA.pure 3 rfl (by kernel_rfl) (Yl.idxAddrA (j := 0) (o := 0) Tryz.underlying46 sz42 rfl rfl rfl (Nat.le_of_ble_eq_true rfl) rfl) rfl ?_
        refine TA.load 4 rfl (by kernel_rfl) (Yl.load1 Tryz.underlying42 rfl rfl (by repeat (first | exact Foc.head | apply Foc.tail)) rfl) rfl ?_
        refine TA.quiet 5 rfl (by kernel_rfl) (Cll.func (xs := [_, _]) (vs := [_, _]) Tryz.func22 rfl (by kernel_rfl) ⟨rfl, rfl, trivial⟩) rfl (Quiet.none (turn_q _ 13 (by decide))) ?_
        refine TA.pure 6 rfl (by kernel_rfl) (Yl.xor32  rfl rfl) rfl ?_
        refine TA.pure 7 rfl (by kernel_rfl) (Yl.idxAddrA (j := 0) (o := 0) Tryz.underlying46 sz42 rfl rfl rfl (Nat.le_of_ble_eq_true rfl) rfl) rfl ?_
        refine TA.load 8 rfl (by kernel_rfl) (Yl.load1 Tryz.underlying42 rfl rfl (by repeat (first | exact Foc.head | apply Foc.tail)) rfl) rfl ?_
        refine TA.quiet 9 rfl (by kernel_rfl) (Cll.func (xs := [_, _]) (vs := [_, _]) Tryz.func22 rfl (by kernel_rfl) ⟨rfl, rfl, trivial⟩) rfl (Quiet.none (turn_q _ 22 (by decide))) ?_
        refine TA.pure 10 rfl (by kernel_rfl) (Yl.xor32  rfl rfl) rfl ?_
        refine TA.pure 11 rfl (by kernel_rfl) (Yl.idxAddrA (j := 0) (o := 0) Tryz.underlying46 sz42 rfl rfl rfl (Nat.le_of_ble_eq_true rfl) rfl) rfl ?_
        refine TA.load 12 rfl (by kernel_rfl) (Yl.load1 Tryz.underlying42 rfl rfl (by repeat (first | exact Foc.head | apply Foc.tail)) rfl) rfl ?_
        refine TA.pure 13 rfl (by kernel_rfl) (Yl.idxAddrA (j := 1) (o := 1) Tryz.underlying46 sz42 rfl rfl rfl (Nat.le_of_ble_eq_true rfl) rfl) rfl ?_
        refine TA.load 14 rfl (by kernel_rfl) (Yl.load1 Tryz.underlying42 rfl rfl (by repeat (first | exact Foc.head | apply Foc.tail)) rfl) rfl ?_
        refine TA.pure 15 rfl (by kernel_rfl) (Yl.and32  rfl rfl) rfl ?_
        refine TA.pure 16 rfl (by kernel_rfl) (Yl.idxAddrA (j := 0) (o := 0) Tryz.underlying46 sz42 rfl rfl rfl (Nat.le_of_ble_eq_true rfl) rfl) rfl ?_
        refine TA.load 17 rfl (by kernel_rfl) (Yl.load1 Tryz.underlying42 rfl rfl (by repeat (first | exact Foc.head | apply Foc.tail)) rfl) rfl ?_
        refine TA.pure 18 rfl (by kernel_rfl) (Yl.idxAddrA (j := 2) (o := 2) Tryz.underlying46 sz42 rfl rfl rfl (Nat.le_of_ble_eq_true rfl) rfl) rfl ?_
        refine TA.load 19 rfl (by kernel_rfl) (Yl.load1 Tryz.underlying42 rfl rfl (by repeat (first | exact Foc.head | apply Foc.tail)) rfl) rfl ?_
        refine TA.pure 20 rfl (by kernel_rfl) (Yl.and32  rfl rfl) rfl ?_
        refine TA.pure 21 rfl (by kernel_rfl) (Yl.xor32  rfl rfl) rfl ?_
        refine TA.pure 22 rfl (by kernel_rfl) (Yl.idxAddrA (j := 1) (o := 1) Tryz.underlying46 sz42 rfl rfl rfl (Nat.le_of_ble_eq_true rfl) rfl) rfl ?_
        refine TA.load 23 rfl (by kernel_rfl) (Yl.load1 Tryz.underlying42 rfl rfl (by repeat (first | exact Foc.head | apply Foc.tail)) rfl) rfl ?_
        refine TA.pure 24 rfl (by kernel_rfl) (Yl.idxAddrA (j := 2) (o := 2) Tryz.underlying46 sz42 rfl rfl rfl (Nat.le_of_ble_eq_true rfl) rfl) rfl ?_
        refine TA.load 25 rfl (by kernel_rfl) (Yl.load1 Tryz.underlying42 rfl rfl (by repeat (first | exact Foc.head | apply Foc.tail)) rfl) rfl ?_
        refine TA.pure 26 rfl (by kernel_rfl) (Yl.and32  rfl rfl) rfl ?_
        refine TA.pure 27 rfl (by kernel_rfl) (Yl.xor32  rfl rfl) rfl ?_
        refine TA.pure 28 rfl (by kernel_rfl) (Yl.add rfl rfl (w32_add _ _)) rfl ?_
        refine TA.pure 29 rfl (by kernel_rfl) (Yl.assign rfl) rfl ?_
        refine TA.next (by kernel_rfl) ?_
        refine TC.region ?_
        refine TL.val (Yl.move rfl) rfl ?_
        refine TL.val (Yl.move rfl) rfl ?_
        refine TL.val (Yl.add rfl rfl (w32_add _ _)) rfl ?_
        refine TL.val (Yl.idxAddrA (j := 0) (o := 0) Tryz.underlying46 sz42 rfl rfl rfl (Nat.le_of_ble_eq_true rfl) rfl) rfl ?_
        refine TL.val (Yl.load1 Tryz.underlying42 rfl rfl (by repeat (first | exact Foc.head | apply Foc.tail)) rfl) rfl ?_
        refine TL.val (Yl.idxAddrA (j := 1) (o := 1) Tryz.underlying46 sz42 rfl rfl rfl (Nat.le_of_ble_eq_true rfl) rfl) rfl ?_
        refine TL.val (Yl.load1 Tryz.underlying42 rfl rfl (by repeat (first | exact Foc.head | apply Foc.tail)) rfl) rfl ?_
        refine TL.val (Yl.idxAddrA (j := 2) (o := 2) Tryz.underlying46 sz42 rfl rfl rfl (Nat.le_of_ble_eq_true rfl) rfl) rfl ?_
        refine TL.val (Yl.load1 Tryz.underlying42 rfl rfl (by repeat (first | exact Foc.head | apply Foc.tail)) rfl) rfl ?_
        refine TL.val (Yl.idxAddrA (j := 3) (o := 3) Tryz.underlying46 sz42 rfl rfl rfl (Nat.le_of_ble_eq_true rfl) rfl) rfl ?_
        refine TL.val (Yl.load1 Tryz.underlying42 rfl rfl (by repeat (first | exact Foc.head | apply Foc.tail)) rfl) rfl ?_
        refine TL.val (Yl.move rfl) rfl ?_
        refine TL.val (Yl.add rfl rfl (w32_add _ _)) rfl ?_
        refine TL.val (Yl.idxAddrA (j := 4) (o := 4) Tryz.underlying46 sz42 rfl rfl rfl (Nat.le_of_ble_eq_true rfl) rfl) rfl ?_
        refine TL.val (Yl.load1 Tryz.underlying42 rfl rfl (by repeat (first | exact Foc.head | apply Foc.tail)) rfl) rfl ?_
        refine TL.val (Yl.idxAddrA (j := 5) (o := 5) Tryz.underlying46 sz42 rfl rfl rfl (Nat.le_of_ble_eq_true rfl) rfl) rfl ?_
        refine TL.val (Yl.load1 Tryz.underlying42 rfl rfl (by repeat (first | exact Foc.head | apply Foc.tail)) rfl) rfl ?_
        refine TL.val (Yl.idxAddrA (j := 6) (o := 6) Tryz.underlying46 sz42 rfl rfl rfl (Nat.le_of_ble_eq_true rfl) rfl) rfl ?_
        refine TL.val (Yl.load1 Tryz.underlying42 rfl rfl (by repeat (first | exact Foc.head | apply Foc.tail)) rfl) rfl ?_
        refine TL.val (Yl.buildA (vs := [_, _, _, _, _, _, _, _]) [_, _, _, _, _, _, _, _] Tryz.underlying46 sz42 zr46 rfl (by rfl) rfl ⟨rfl, rfl, rfl, rfl, rfl, rfl, rfl, rfl, trivial⟩ rfl) rfl ?_
        refine TL.skp (Skp.storeA (vs := [_, _, _, _, _, _, _, _]) sz46 rfl rfl rfl (by repeat (first | exact Foc.head | apply Foc.tail)) (Nat.le_of_ble_eq_true rfl) rfl) ?_
        refine TL.next ?_
        refine TC.region ?_
        refine TL.val (Yl.add rfl rfl (wI (by omega))) rfl ?_
        refine TL.val (Yl.move rfl) rfl ?_
        exact TL.done (Inv.again (i + 1) (by omega) (by omega) ⟨rfl, rfl, rfl, rfl, rfl, rfl, trivial⟩ (fun _ h => by rw [hR1]; exact h))
      · replace hc96 := of_decide_eq_false hc96
        refine TC.exit_next rfl ?_
        refine TC.seq ?_
        obtain rfl : i = 64 := by omega
        refine TC.region ?_
        refine TL.val (Yl.move rfl) rfl ?_
        refine TL.next ?_
        refine TC.block ?_
        refine TC.loopI (σ := Nat) (fun j => [(0, pt bh 0), (1, vS s), (2, pt bk 0), (6, pt b6 0), (11, pt b11 0), (185, .int .i64 (j : Int))]) (fun j => (b11, oC (v8C (R 64)) 46) :: (b6, oC (wV (SW 64)) 47) :: (bh, oC (wV (addL h.list (R 64).list j)) 46) :: (bk, oC (wV kTab) 47) :: Fr) (fun j => j ≤ 8) (fun j => 8 - j) 0 ⟨rfl, rfl, rfl, rfl, rfl, rfl, trivial⟩ (fun _ h => h) (Nat.zero_le _) (fun j hj => ?_)
        refine TC.seq ?_
        refine TC.region ?_
        refine TL.val (Yl.lss rfl rfl rfl) rfl ?_
        refine TL.next ?_
        refine TC.seq ?_
        refine TC.cond rfl (fun hc186 => ?_) (fun hc186 => ?_)
        · replace hc186 := of_decide_eq_true hc186
          refine TC.skip_next ?_
          refine TC.seq ?_
          refine TC.block ?_
          refine TC.seq ?_
          refine TC.region ?_
          refine TL.val (Yl.move rfl) rfl ?_
          refine TL.val (Yl.assign rfl) rfl ?_
          refine TL.next ?_
          refine TC.draws [11] _ mixed (by kernel_rfl) rfl (fun _ h => h) ?_
          refine TA.pure 0 rfl (by kernel_rfl) (Yl.move rfl) rfl ?_
          refine TA.pure 1 rfl (by kernel_rfl) (Yl.move rfl) rfl ?_
          refine TA.pure 2 rfl (by kernel_rfl) (Yl.nilCheckP rfl) rfl ?_
          refine TA.pure 3 rfl (by kernel_rfl) (Yl.idxAddrA (j := j) (o := j) Tryz.underlying46 sz42 rfl rfl rfl (by omega) (by omega)) rfl ?_
          refine TA.load 4 rfl (by kernel_rfl) (Yl.load1 Tryz.underlying42 rfl rfl (by repeat (first | exact Foc.head | apply Foc.tail)) ((wV_get (by rw [addL_length (a := h.list) (b := (R 64).list) rfl (show j ≤ 8 by omega)]; exact (show j < 8 by omega))).trans (congrArg (fun x : UInt32 => some (Value.int .u32 (x.toNat : Int))) (addL_get (a := h.list) (b := (R 64).list) rfl (show j < 8 by omega))))) rfl ?_
          refine TA.pure 5 rfl (by kernel_rfl) (Yl.move rfl) rfl ?_
          refine TA.pure 6 rfl (by kernel_rfl) (Yl.idxAddrA (j := j) (o := j) Tryz.underlying46 sz42 rfl rfl rfl (by omega) (by omega)) rfl ?_
          refine TA.load 7 rfl (by kernel_rfl) (Yl.load1 Tryz.underlying42 rfl rfl (by repeat (first | exact Foc.head | apply Foc.tail)) (wV_get (l := (R 64).list) (show j < 8 by omega))) rfl ?_
          refine TA.pure 8 rfl (by kernel_rfl) (Yl.add rfl rfl (w32_add _ _)) rfl ?_
          refine TA.pure 9 rfl (by kernel_rfl) (Yl.nilCheckP rfl) rfl ?_
          refine TA.pure 10 rfl (by kernel_rfl) (Yl.idxAddrA (j := j) (o := j) Tryz.underlying46 sz42 rfl rfl rfl (by omega) (by omega)) rfl ?_
          refine TA.one 11 (by kernel_rfl) ?_
          refine Up.skp rfl rfl (Skp.store1 sz42 rfl rfl rfl (by repeat (first | exact Foc.head | apply Foc.tail)) (by rw [wV_length, addL_length (a := h.list) (b := (R 64).list) rfl (show j ≤ 8 by omega)]; exact (show j < 8 by omega)) ((wV_set _ _ _).trans (congrArg wV (addL_set (a := h.list) (b := (R 64).list) rfl (show j < 8 by omega))))) (.inl rfl) ?_
          refine TA.next (by kernel_rfl) ?_
          refine TC.region ?_
          refine TL.val (Yl.add rfl rfl (wI (by omega))) rfl ?_
          refine TL.val (Yl.move rfl) rfl ?_
          exact TL.done (Inv.again (j + 1) (by omega) (by omega) ⟨rfl, rfl, rfl, rfl, rfl, rfl, trivial⟩ (fun _ h => h))
        · replace hc186 := of_decide_eq_false hc186
          obtain rfl : j = 8 := by omega
          exact TC.exit (Back.end0 () rfl rfl (fun _ h => h.sub (by repeat (first | exact List.Sublist.refl _ | refine List.Sublist.cons _ ?_))))
end Go.Proofs.YtlhncphipfkkjaaGreatDoor

/- SHA-256 of a text, as the spec computes it, and its digits. -/
namespace Go.Proofs.YtlhncphipfkkjaaGreatDoor
open Go

def iv : V8 := ⟨1779033703, 3144134277, 1013904242, 2773480762, 1359893119, 2600822924, 528734635, 1541459225⟩
def blk (l : List UInt8) (i : Nat) : List UInt8 := (l.take (64 * i + 64)).drop (64 * i)
theorem blk_length {l : List UInt8} {i : Nat} (h : 64 * i + 64 ≤ l.length) : (blk l i).length = 64 := by simp [blk]; omega
def shaN (h : V8) (l : List UInt8) : Nat → V8
  | 0 => h
  | n + 1 => comp (shaN h l n) (blk l n)
def be8 (n : Nat) : Nat → List UInt8
  | 0 => []
  | m + 1 => be8 n m ++ [toU8 (((n : Int) * 8) / 2 ^ (8 * (7 - m)))]
theorem be8_length (n m : Nat) : (be8 n m).length = m := by induction m with
  | zero => rfl
  | succ m ih => simp [be8, ih]
def tailN (n : Nat) : Nat := (119 - n % 64) % 64
def tailA (l : List UInt8) (k : Nat) : List UInt8 := l.drop (l.length / 64 * 64) ++ [128] ++ List.replicate k 0
theorem tailA_length (l : List UInt8) (k : Nat) : (tailA l k).length = l.length % 64 + 1 + k := by
  simp only [tailA, List.length_append, List.length_drop, List.length_replicate, List.length_cons, List.length_nil]; omega
theorem tailA_succ (l : List UInt8) (k : Nat) : tailA l k ++ [0] = tailA l (k + 1) := by
  simp only [tailA, List.append_assoc, List.replicate_succ']
def tailB (l : List UInt8) (m : Nat) : List UInt8 := tailA l (tailN l.length) ++ be8 l.length m
theorem tailB_length (l : List UInt8) (m : Nat) : (tailB l m).length = l.length % 64 + 1 + tailN l.length + m := by
  simp only [tailB, List.length_append, tailA_length, be8_length]
theorem tailB_succ (l : List UInt8) (m : Nat) : tailB l m ++ [toU8 (((l.length : Int) * 8) / 2 ^ (8 * (7 - m)))] = tailB l (m + 1) := by
  simp only [tailB, be8, List.append_assoc]
theorem tail_64 (l : List UInt8) : (tailB l 8).length % 64 = 0 := by
  rw [tailB_length, tailN]; omega
def sumV (l : List UInt8) : V8 := shaN (shaN iv l (l.length / 64)) (tailB l 8) ((tailB l 8).length / 64)
def hex8 (x : UInt32) : List UInt8 := hex4 (shr32 x 16).toNat ++ hex4 (x &&& 65535).toNat
theorem hex8_length (x : UInt32) : (hex8 x).length = 8 := rfl
def hexL (l : List UInt32) : Nat → List UInt8
  | 0 => []
  | n + 1 => hexL l n ++ hex8 (l.getD n 0)
theorem hexL_length (l : List UInt32) (n : Nat) : (hexL l n).length = 8 * n := by induction n with
  | zero => rfl
  | succ n ih => simp only [hexL, List.length_append, ih, hex8_length]; omega
def sumH (l : List UInt8) : List UInt8 := hexL (sumV l).list 8
theorem sumH_length (l : List UInt8) : (sumH l).length = 64 := hexL_length _ 8
def algB : List UInt8 := [115, 104, 97, 50, 53, 54]
def hashV (h : List UInt8) : List Value := [vS algB, vS h]
theorem hi16 (x : UInt32) : IntKind.i32.wrap ((shr32 x 16).toNat : Int) = ((shr32 x 16).toNat : Int) := by
  have h : (shr32 x 16).toNat < 65536 := by
    have := x.toNat_lt
    show (shr32 x 16).toNat < 65536
    simp [shr32, UInt32.toNat_shiftRight, Nat.shiftRight_eq_div_pow]
    omega
  exact wI32 (by omega)
theorem lo16 (x : UInt32) : IntKind.i32.wrap ((x &&& 65535).toNat : Int) = ((x &&& 65535).toNat : Int) := by
  have h : (x &&& 65535).toNat ≤ 65535 := by
    rw [UInt32.toNat_and]; exact Nat.and_le_right
  exact wI32 (by omega)
end Go.Proofs.YtlhncphipfkkjaaGreatDoor

namespace Go.Proofs.YtlhncphipfkkjaaGreatDoor
open Go
theorem sum_q (l : List UInt8) (hl : l.length ≤ 1125899906842624) : Quiet Tryz.prog 8 #[vS l] [] (.agg ⟨hashV (sumH l)⟩) := by
  refine Quiet.of_gives fun g Fr => ?_
  refine Gives.enter Tryz.func8 rfl Tryz.ntmps8 rfl ?_
  refine TC.seq ?_
  refine TC.region ?_
  refine TL.eff (Eff.alloc zr29 rfl) rfl fun b2 => ?_
  refine TL.next ?_
  refine TC.seq ?_
  refine TC.region ?_
  refine TL.val (Yl.buildA (vs := v8C iv) [_, _, _, _, _, _, _, _] Tryz.underlying46 sz42 zr46 rfl (by rfl) rfl ⟨rfl, rfl, rfl, rfl, rfl, rfl, rfl, rfl, trivial⟩ rfl) rfl ?_
  refine TL.eff (Eff.alloc zr46 rfl) rfl fun b3 => ?_
  refine TL.skp (Skp.storeA (vs := v8C iv) sz46 rfl rfl rfl (by repeat (first | exact Foc.head | apply Foc.tail)) (Nat.le_of_ble_eq_true rfl) rfl) ?_
  refine TL.next ?_
  refine TC.seq ?_
  refine TC.region ?_
  refine TL.quiet (Cll.func (xs := []) (vs := []) Tryz.func15 rfl (by kernel_rfl) trivial) rfl (Quiet.none (shaWords_q)) ?_
  refine TL.eff (Eff.alloc (zs := wV (List.replicate 64 0)) zr47 rfl) rfl fun b4 => ?_
  refine TL.skp (Skp.storeA (vs := wV kTab) sz47 rfl rfl rfl (by repeat (first | exact Foc.head | apply Foc.tail)) (Nat.le_of_ble_eq_true rfl) rfl) ?_
  refine TL.next ?_
  refine TC.seq ?_
  refine TC.region ?_
  refine TL.val (Yl.move rfl) rfl ?_
  refine TL.val (Yl.lenS Tryz.underlying9 rfl) rfl ?_
  refine TL.val (Yl.assign rfl) rfl ?_
  refine TL.next ?_
  refine TC.seq ?_
  refine TC.region ?_
  refine TL.val (Yl.move rfl) rfl ?_
  refine TL.val (Yl.move rfl) rfl ?_
  refine TL.val (Yl.quo rfl rfl (by omega) (by omega) (wI (by omega))) rfl ?_
  refine TL.val (Yl.mul rfl rfl (wI (by omega))) rfl ?_
  refine TL.val (Yl.sliceSL (j := l.length / 64 * 64) Tryz.underlying9 rfl rfl (by omega) (by omega)) rfl ?_
  refine TL.val (Yl.addS rfl rfl (by rw [List.length_drop]; simp only [List.length_cons, List.length_nil]; omega)) rfl ?_
  refine TL.val (Yl.assign rfl) rfl ?_
  refine TL.next ?_
  refine TC.seq ?_
  refine TC.block ?_
  refine TC.loopI (σ := Nat) (fun k => [(0, vS l), (2, pt b2 0), (3, pt b3 0), (4, pt b4 0), (5, .int .i64 (l.length : Int)), (6, vS (tailA l k))]) (fun k => (b4, oC (wV kTab) 47) :: (b3, oC (v8C iv) 46) :: (b2, oC [vS [], vS []] 29) :: Fr) (fun k => k ≤ tailN l.length) (fun k => tailN l.length - k) 0 ⟨rfl, rfl, rfl, rfl, rfl, (by simp [tailA]; rfl), trivial⟩ (fun _ h => h) (Nat.zero_le _) (fun k hk => ?_)
  refine TC.seq ?_
  refine TC.seq ?_
  refine TC.region ?_
  refine TL.val (Yl.move rfl) rfl ?_
  refine TL.val (Yl.lenS Tryz.underlying9 rfl) rfl ?_
  refine TL.val (Yl.rem rfl rfl (by omega) (by omega) rfl) rfl ?_
  refine TL.val (Yl.neq rfl rfl rfl) rfl ?_
  refine TL.next ?_
  refine TC.cond rfl (fun hc26 => ?_) (fun hc26 => ?_)
  · replace hc26 := of_decide_eq_true hc26
    refine TC.skip_next ?_
    refine TC.block ?_
    have hk1 : k + 1 ≤ tailN l.length := by
      rw [tailA_length] at hc26
      unfold tailN at *
      omega
    refine TC.region ?_
    refine TL.val (Yl.move rfl) rfl ?_
    refine TL.val (Yl.addS rfl rfl (by rw [tailA_length]; unfold tailN at *; simp only [List.length_cons, List.length_nil]; omega)) rfl ?_
    refine TL.val (Yl.assign rfl) rfl ?_
    exact TL.done (Inv.again (k + 1) hk1 (by omega) ⟨rfl, rfl, rfl, rfl, rfl, (by rw [← tailA_succ]; rfl), trivial⟩ (fun _ h => h))
  · replace hc26 := of_decide_eq_false hc26
    refine TC.exit_next rfl ?_
    refine TC.seq ?_
    refine TC.seq ?_
    obtain rfl : k = tailN l.length := by
      rw [tailA_length] at hc26
      unfold tailN at *
      omega
    refine TC.region ?_
    refine TL.val (Yl.assign rfl) rfl ?_
    refine TL.next ?_
    refine TC.block ?_
    refine TC.loopI (σ := Nat) (fun m => [(0, vS l), (2, pt b2 0), (3, pt b3 0), (4, pt b4 0), (5, .int .i64 (l.length : Int)), (6, vS (tailB l m)), (7, .int .i64 (7 - (m : Int)))]) (fun m => (b4, oC (wV kTab) 47) :: (b3, oC (v8C iv) 46) :: (b2, oC [vS [], vS []] 29) :: Fr) (fun m => m ≤ 8) (fun m => 8 - m) 0 ⟨rfl, rfl, rfl, rfl, rfl, (by simp [tailB, be8]; rfl), rfl, trivial⟩ (fun _ h => h) (Nat.zero_le _) (fun m hm => ?_)
    refine TC.seq ?_
    refine TC.seq ?_
    refine TC.region ?_
    refine TL.val (Yl.move rfl) rfl ?_
    refine TL.val (Yl.geq rfl rfl rfl) rfl ?_
    refine TL.next ?_
    refine TC.cond rfl (fun hc30 => ?_) (fun hc30 => ?_)
    · replace hc30 := of_decide_eq_true hc30
      refine TC.skip_next ?_
      refine TC.seq ?_
      refine TC.block ?_
      refine TC.region ?_
      refine TL.val (Yl.move rfl) rfl ?_
      refine TL.val (Yl.move rfl) rfl ?_
      refine TL.val (Yl.mul rfl rfl (wI (by omega))) rfl ?_
      refine TL.val (Yl.move rfl) rfl ?_
      refine TL.val (Yl.mul rfl rfl (wI (by omega))) rfl ?_
      refine TL.val (Yl.shrI (c := 8 * (7 - m)) rfl (congrArg (fun z => some (Value.int .i64 z)) (by omega)) (Nat.ble_eq_true_of_le (show 8 * (7 - m) ≤ 64 by omega))) rfl ?_
      refine TL.val (Yl.conv Tryz.underlying3 Tryz.underlying5 rfl (w8 _)) rfl ?_
      refine TL.eff (Eff.lits1 [_] (vs := bV [toU8 (((l.length : Int) * 8) / 2 ^ (8 * (7 - m)))]) Tryz.underlying40 sz5 zr5 rfl ⟨rfl, trivial⟩ rfl rfl rfl) rfl fun b40 => ?_
      refine TL.val (Yl.strB (l := [toU8 (((l.length : Int) * 8) / 2 ^ (8 * (7 - m)))]) (m := [toU8 (((l.length : Int) * 8) / 2 ^ (8 * (7 - m)))]) Tryz.underlying40 Tryz.underlying5 Tryz.underlying9 rfl (by repeat (first | exact Foc.head | apply Foc.tail)) rfl (Nat.le_refl 1)) rfl ?_
      refine TL.val (Yl.addS rfl rfl (by rw [tailB_length]; unfold tailN; simp only [List.length_cons, List.length_nil]; omega)) rfl ?_
      refine TL.val (Yl.assign rfl) rfl ?_
      refine TL.next ?_
      refine TC.region ?_
      refine TL.val (Yl.move rfl) rfl ?_
      refine TL.val (Yl.sub rfl rfl (wI (by omega))) rfl ?_
      refine TL.val (Yl.assign rfl) rfl ?_
      exact TL.done (Inv.again (m + 1) (by omega) (by omega) ⟨rfl, rfl, rfl, rfl, rfl, (by rw [← tailB_succ]; rfl), (congrArg (fun z => some (Value.int .i64 z)) (by omega)), trivial⟩ (fun _ h => h.sub (by repeat (first | exact List.Sublist.refl _ | refine List.Sublist.cons _ ?_))))
    · replace hc30 := of_decide_eq_false hc30
      refine TC.exit_next rfl ?_
      refine TC.seq ?_
      refine TC.seq ?_
      obtain rfl : m = 8 := by omega
      refine TC.region ?_
      refine TL.val (Yl.assign rfl) rfl ?_
      refine TL.next ?_
      refine TC.block ?_
      refine TC.loopI (σ := Nat) (fun j => [(0, vS l), (2, pt b2 0), (3, pt b3 0), (4, pt b4 0), (5, .int .i64 (l.length : Int)), (6, vS (tailB l 8)), (8, .int .i64 (64 * (j : Int)))]) (fun j => (b3, oC (v8C (shaN iv l j)) 46) :: (b4, oC (wV kTab) 47) :: (b2, oC [vS [], vS []] 29) :: Fr) (fun j => j ≤ l.length / 64) (fun j => l.length / 64 - j) 0 ⟨rfl, rfl, rfl, rfl, rfl, rfl, rfl, trivial⟩ (fun w h => (Pulls.own (.cons (by repeat (first | exact Pull.head | apply Pull.tail)) (.cons (by repeat (first | exact Pull.head | apply Pull.tail)) .nil))) w h) (Nat.zero_le _) (fun j hj => ?_)
      refine TC.seq ?_
      refine TC.seq ?_
      refine TC.region ?_
      refine TL.val (Yl.move rfl) rfl ?_
      refine TL.val (Yl.add rfl rfl (wI (by omega))) rfl ?_
      refine TL.val (Yl.move rfl) rfl ?_
      refine TL.val (Yl.leq rfl rfl rfl) rfl ?_
      refine TL.next ?_
      refine TC.cond rfl (fun hc46 => ?_) (fun hc46 => ?_)
      · replace hc46 := of_decide_eq_true hc46
        refine TC.skip_next ?_
        refine TC.seq ?_
        refine TC.block ?_
        refine TC.region ?_
        refine TL.val (Yl.move rfl) rfl ?_
        refine TL.val (Yl.move rfl) rfl ?_
        refine TL.val (Yl.move rfl) rfl ?_
        refine TL.val (Yl.add rfl rfl (wI (by omega))) rfl ?_
        refine TL.val (Yl.sliceSLH (i := 64 * j) (j := 64 * j + 64) Tryz.underlying9 rfl rfl rfl (by omega) (by omega) (by omega) (by omega)) rfl ?_
        refine TL.call (Cll.func (xs := [_, _, _]) (vs := [_, _, _]) Tryz.func16 rfl (by kernel_rfl) ⟨rfl, rfl, rfl, trivial⟩) rfl (Gives.pull (.cons (by repeat (first | exact Pull.head | apply Pull.tail)) (.cons (by repeat (first | exact Pull.head | apply Pull.tail)) .nil)) (shaBlock_g (shaN iv l j) (blk l j) (blk_length (by omega)) b3 b4 g _)) fun _ => ?_
        refine TL.next ?_
        refine TC.region ?_
        refine TL.val (Yl.move rfl) rfl ?_
        refine TL.val (Yl.add rfl rfl (wI (by omega))) rfl ?_
        refine TL.val (Yl.assign rfl) rfl ?_
        exact TL.done (Inv.again (j + 1) (by omega) (by omega) ⟨rfl, rfl, rfl, rfl, rfl, rfl, (congrArg (fun z => some (Value.int .i64 z)) (by omega)), trivial⟩ (fun _ h => h))
      · replace hc46 := of_decide_eq_false hc46
        refine TC.exit_next rfl ?_
        refine TC.seq ?_
        refine TC.seq ?_
        obtain rfl : j = l.length / 64 := by omega
        have ht := tail_64 l
        have ht2 : (tailB l 8).length ≤ 200 := by rw [tailB_length]; unfold tailN; omega
        refine TC.region ?_
        refine TL.val (Yl.assign rfl) rfl ?_
        refine TL.next ?_
        refine TC.block ?_
        refine TC.loopI (σ := Nat) (fun i => [(0, vS l), (2, pt b2 0), (3, pt b3 0), (4, pt b4 0), (5, .int .i64 (l.length : Int)), (6, vS (tailB l 8)), (9, .int .i64 (64 * (i : Int)))]) (fun i => (b3, oC (v8C (shaN (shaN iv l (l.length / 64)) (tailB l 8) i)) 46) :: (b4, oC (wV kTab) 47) :: (b2, oC [vS [], vS []] 29) :: Fr) (fun i => i ≤ (tailB l 8).length / 64) (fun i => (tailB l 8).length / 64 - i) 0 ⟨rfl, rfl, rfl, rfl, rfl, rfl, rfl, trivial⟩ (fun _ h => h) (Nat.zero_le _) (fun i hi => ?_)
        refine TC.seq ?_
        refine TC.seq ?_
        refine TC.region ?_
        refine TL.val (Yl.move rfl) rfl ?_
        refine TL.val (Yl.move rfl) rfl ?_
        refine TL.val (Yl.lenS Tryz.underlying9 rfl) rfl ?_
        refine TL.val (Yl.lss rfl rfl rfl) rfl ?_
        refine TL.next ?_
        refine TC.cond rfl (fun hc58 => ?_) (fun hc58 => ?_)
        · replace hc58 := of_decide_eq_true hc58
          refine TC.skip_next ?_
          refine TC.seq ?_
          refine TC.block ?_
          refine TC.region ?_
          refine TL.val (Yl.move rfl) rfl ?_
          refine TL.val (Yl.move rfl) rfl ?_
          refine TL.val (Yl.move rfl) rfl ?_
          refine TL.val (Yl.add rfl rfl (wI (by omega))) rfl ?_
          refine TL.val (Yl.sliceSLH (i := 64 * i) (j := 64 * i + 64) Tryz.underlying9 rfl rfl rfl (by omega) (by omega) (by omega) (by omega)) rfl ?_
          refine TL.call (Cll.func (xs := [_, _, _]) (vs := [_, _, _]) Tryz.func16 rfl (by kernel_rfl) ⟨rfl, rfl, rfl, trivial⟩) rfl (Gives.pull (.cons (by repeat (first | exact Pull.head | apply Pull.tail)) (.cons (by repeat (first | exact Pull.head | apply Pull.tail)) .nil)) (shaBlock_g (shaN (shaN iv l (l.length / 64)) (tailB l 8) i) (blk (tailB l 8) i) (blk_length (by omega)) b3 b4 g _)) fun _ => ?_
          refine TL.next ?_
          refine TC.region ?_
          refine TL.val (Yl.move rfl) rfl ?_
          refine TL.val (Yl.add rfl rfl (wI (by omega))) rfl ?_
          refine TL.val (Yl.assign rfl) rfl ?_
          exact TL.done (Inv.again (i + 1) (by omega) (by omega) ⟨rfl, rfl, rfl, rfl, rfl, rfl, (congrArg (fun z => some (Value.int .i64 z)) (by omega)), trivial⟩ (fun _ h => h))
        · replace hc58 := of_decide_eq_false hc58
          refine TC.exit_next rfl ?_
          refine TC.seq ?_
          obtain rfl : i = (tailB l 8).length / 64 := by omega
          refine TC.region ?_
          refine TL.val (Yl.assign rfl) rfl ?_
          refine TL.next ?_
          refine TC.seq ?_
          refine TC.seq ?_
          refine TC.region ?_
          refine TL.val (Yl.loadA (vs := wV (sumV l).list) Tryz.underlying46 rfl sz46 rfl (by repeat (first | exact Foc.head | apply Foc.tail)) rfl) rfl ?_
          refine TL.val (Yl.move rfl) rfl ?_
          refine TL.next ?_
          refine TC.block ?_
          refine TC.loopI (σ := Nat) (fun i => [(2, pt b2 0), (10, vS (hexL (sumV l).list i)), (67, .agg ⟨wV (sumV l).list⟩), (68, .int .i64 (i : Int))]) (fun i => (b3, oC (v8C (sumV l)) 46) :: (b4, oC (wV kTab) 47) :: (b2, oC [vS [], vS []] 29) :: Fr) (fun i => i ≤ 8) (fun i => 8 - i) 0 ⟨rfl, rfl, rfl, rfl, trivial⟩ (fun _ h => h) (Nat.zero_le _) (fun i hi => ?_)
          refine TC.seq ?_
          refine TC.region ?_
          refine TL.val (Yl.lss rfl rfl rfl) rfl ?_
          refine TL.next ?_
          refine TC.seq ?_
          refine TC.cond rfl (fun hc69 => ?_) (fun hc69 => ?_)
          · replace hc69 := of_decide_eq_true hc69
            refine TC.skip_next ?_
            refine TC.seq ?_
            refine TC.block ?_
            refine TC.seq ?_
            refine TC.region ?_
            refine TL.val (Yl.idxA (j := i) Tryz.underlying46 Tryz.underlying42 rfl sz42 rfl rfl rfl (by omega) (wV_get (show i < 8 by omega))) rfl ?_
            refine TL.val (Yl.assign rfl) rfl ?_
            refine TL.next ?_
            refine TC.region ?_
            refine TL.val (Yl.move rfl) rfl ?_
            refine TL.val (Yl.move rfl) rfl ?_
            refine TL.val (Yl.shr32 (c := 16) rfl rfl) rfl ?_
            refine TL.val (Yl.conv Tryz.underlying42 Tryz.underlying21 rfl (hi16 _)) rfl ?_
            refine TL.quiet (Cll.func (xs := [_]) (vs := [_]) Tryz.func17 rfl (by kernel_rfl) ⟨rfl, trivial⟩) rfl (Quiet.none (hexes_q _)) ?_
            refine TL.val (Yl.move rfl) rfl ?_
            refine TL.val (Yl.and32 (b := 65535) rfl rfl) rfl ?_
            refine TL.val (Yl.conv Tryz.underlying42 Tryz.underlying21 rfl (lo16 _)) rfl ?_
            refine TL.quiet (Cll.func (xs := [_]) (vs := [_]) Tryz.func17 rfl (by kernel_rfl) ⟨rfl, trivial⟩) rfl (Quiet.none (hexes_q _)) ?_
            refine TL.val (Yl.addS rfl rfl (Nat.le_of_ble_eq_true rfl)) rfl ?_
            refine TL.val (Yl.addS rfl rfl (by rw [hexL_length, List.length_append]; simp only [hex4, List.length_cons, List.length_nil]; omega)) rfl ?_
            refine TL.val (Yl.assign rfl) rfl ?_
            refine TL.next ?_
            refine TC.region ?_
            refine TL.val (Yl.add rfl rfl (wI (by omega))) rfl ?_
            refine TL.val (Yl.move rfl) rfl ?_
            exact TL.done (Inv.again (i + 1) (by omega) (by omega) ⟨rfl, rfl, rfl, rfl, trivial⟩ (fun _ h => h))
          · replace hc69 := of_decide_eq_false hc69
            refine TC.exit_next rfl ?_
            refine TC.seq ?_
            obtain rfl : i = 8 := by omega
            refine TC.region ?_
            refine TL.val (Yl.move rfl) rfl ?_
            refine TL.val (Yl.build (ixs := [0, 1]) (vs := [_, _]) (rs := [_, _]) [_, _] st29 rfl ⟨rfl, rfl, trivial⟩ rfl) rfl ?_
            refine TL.skp (Skp.storeA (vs := hashV (sumH l)) sz29 rfl rfl rfl (by repeat (first | exact Foc.head | apply Foc.tail)) (Nat.le_of_ble_eq_true rfl) rfl) ?_
            refine TL.next ?_
            exact TC.backC () rfl rfl Tryz.underlying29 rfl (vs := hashV (sumH l)) sz29 (by repeat (first | exact Foc.head | apply Foc.tail)) rfl rfl (fun _ h => h.sub (by repeat (first | exact List.Sublist.refl _ | refine List.Sublist.cons _ ?_)))
theorem hashTo_q (a b : List UInt8) : Quiet Tryz.prog 18 #[.agg ⟨[vS a, vS b]⟩] [] (.agg ⟨[vS a, vS b]⟩) := by
  refine Quiet.of_gives fun g Fr => ?_
  refine Gives.enter Tryz.func18 rfl Tryz.ntmps18 rfl ?_
  refine TC.seq ?_
  refine TC.region ?_
  refine TL.eff (Eff.box rfl rfl) rfl fun b1 => ?_
  refine TL.eff (Eff.alloc zr53 rfl) rfl fun b2 => ?_
  refine TL.next ?_
  refine TC.seq ?_
  refine TC.region ?_
  refine TL.val (Yl.loadA (vs := [vS a, vS b]) Tryz.underlying29 rfl sz29 rfl (by repeat (first | exact Foc.head | apply Foc.tail)) rfl) rfl ?_
  refine TL.skp (Skp.storeA (vs := [_, _]) sz53 rfl rfl rfl (by repeat (first | exact Foc.head | apply Foc.tail)) (Nat.le_of_ble_eq_true rfl) rfl) ?_
  refine TL.next ?_
  exact TC.backC () rfl rfl Tryz.underlying53 rfl (vs := [vS a, vS b]) sz53 (by repeat (first | exact Foc.head | apply Foc.tail)) rfl rfl (fun _ h => h.sub (by repeat (first | exact List.Sublist.refl _ | refine List.Sublist.cons _ ?_)))
end Go.Proofs.YtlhncphipfkkjaaGreatDoor

/- Slices of bytes that grow, read back; the texts of laws.imText. -/
namespace Go.Proofs.YtlhncphipfkkjaaGreatDoor
open Go
variable {P : Program} {F : FL} {H : HL} {g : World} {d : Option Nat} {ty : TypeId} {pos : String} {aft : Array Edge} {gd : Option (Nat × Bool)}

theorem SlB.isSlice {te : TypeId} {xs : List UInt8} {v : Value} {H1 : HL} (h : SlB te xs v H1) : ∃ base cap, v = .slice base xs.length cap := by
  rcases h with ⟨rfl, rfl, _⟩ | ⟨b, off, cap, l, rfl, _⟩
  · exact ⟨none, 0, rfl⟩
  · exact ⟨_, cap, rfl⟩
theorem SlB.read {te : TypeId} {xs : List UInt8} {v : Value} {H1 : HL} (h : SlB te xs v H1) {src dst e : TypeId} {x : Operand} {R : HL} (hs : P.underlying src = some (.slice e)) (he : P.underlying e = some (.int .u8)) (hd : P.underlying dst = some .string) (hx : ev F x = some v) :
    Yl P F (H1 ++ R) ⟨d, .convert src dst x, ty, pos, aft, gd⟩ (vS xs) := by
  rcases h with ⟨rfl, rfl, rfl⟩ | ⟨b, off, cap, l, rfl, rfl, h1, h2, h3⟩
  · exact Yl.strNil hs he hd hx
  · exact Yl.strB hs he hd hx Foc.head h3 (by omega)
theorem Yl.lenSl {t : TypeId} {e : TypeId} {x : Operand} {xs : List UInt8} {v : Value} {H1 : HL} {te : TypeId} (h : SlB te xs v H1) (hu : P.underlying t = some (.slice e)) (hx : ev F x = some v) :
    Yl P F H ⟨d, .call { callee := .builtin .len, args := #[x], argTypes := #[t] }, ty, pos, aft, gd⟩ (.int .i64 (xs.length : Int)) := by
  obtain ⟨base, cap, rfl⟩ := h.isSlice
  exact Yl.lenL hu hx

def imGo : List UInt8 → List UInt8 → List UInt8
  | [], acc => acc
  | c :: r, acc => if acc.length < 60 then imGo r (if 32 ≤ c.toNat ∧ c.toNat ≤ 126 then acc ++ [c] else acc) else acc
theorem imGo_step {l : List UInt8} {k : Nat} {c : UInt8} {acc : List UInt8} (hc : l[k]? = some c) (ha : acc.length < 60) :
    imGo (l.drop k) acc = imGo (l.drop (k + 1)) (if 32 ≤ c.toNat ∧ c.toNat ≤ 126 then acc ++ [c] else acc) := by
  obtain ⟨hlt, rfl⟩ := List.getElem?_eq_some_iff.1 hc
  rw [List.drop_eq_getElem_cons hlt, imGo, if_pos ha]
theorem imGo_stop {r acc : List UInt8} (ha : ¬ acc.length < 60) : imGo r acc = acc := by
  cases r with
  | nil => rfl
  | cons c r => rw [imGo, if_neg ha]
def imT (l : List UInt8) : List UInt8 := imGo l []
end Go.Proofs.YtlhncphipfkkjaaGreatDoor

namespace Go.Proofs.YtlhncphipfkkjaaGreatDoor
open Go
theorem imText_q (l : List UInt8) (hl : l.length ≤ 2147483647) : Quiet Tryz.prog 10 #[vS l] [] (vS (imT l)) := by
  refine Quiet.of_gives fun g Fr => ?_
  refine Gives.enter Tryz.func10 rfl Tryz.ntmps10 rfl ?_
  refine TC.seq ?_
  refine TC.region ?_
  refine TL.val (Yl.assign rfl) rfl ?_
  refine TL.next ?_
  refine TC.seq ?_
  refine TC.region ?_
  refine TL.val (Yl.assign rfl) rfl ?_
  refine TL.next ?_
  refine TC.seq ?_
  refine TC.seq ?_
  refine TC.region ?_
  refine TL.val (Yl.assign rfl) rfl ?_
  refine TL.next ?_
  refine TC.block ?_
  refine TC.loopI (σ := Nat × List UInt8 × Value × HL) (fun p => [(0, vS l), (3, p.2.2.1), (4, .int .i64 (p.1 : Int))]) (fun p => p.2.2.2 ++ Fr) (fun p => p.1 ≤ l.length ∧ SlB 5 p.2.1 p.2.2.1 p.2.2.2 ∧ p.2.1.length ≤ 60 ∧ imGo (l.drop p.1) p.2.1 = imT l) (fun p => l.length - p.1) (0, [], .slice none 0 0, []) ⟨rfl, rfl, rfl, trivial⟩ (fun _ h => h) ⟨Nat.zero_le _, SlB.nil, Nat.zero_le _, by rw [List.drop_zero]; rfl⟩ (fun p hp => ?_)
  obtain ⟨k, acc, v, H1⟩ := p
  obtain ⟨hk, hv, hal, hgo⟩ := hp
  dsimp only at hk hv hal hgo ⊢
  refine TC.seq ?_
  refine TC.seq ?_
  by_cases hkl : k < l.length
  · refine TC.region ?_
    refine TL.val (Yl.move rfl) rfl ?_
    refine TL.val (Yl.move rfl) rfl ?_
    refine TL.val (Yl.lenS Tryz.underlying9 rfl) rfl ?_
    refine TL.val (Yl.lss rfl rfl (decide_eq_true (by omega))) rfl ?_
    refine TL.val (Yl.move rfl) rfl ?_
    refine TL.yes rfl rfl rfl ?_
    refine TL.val (Yl.move rfl) rfl ?_
    refine TL.yes rfl rfl rfl ?_
    refine TL.val (Yl.lenSl hv Tryz.underlying40 rfl) rfl ?_
    refine TL.yes rfl rfl rfl ?_
    refine TL.val (Yl.lss rfl rfl rfl) rfl ?_
    refine TL.val (Yl.pickT rfl rfl) rfl ?_
    refine TL.next ?_
    refine TC.cond rfl (fun hc13 => ?_) (fun hc13 => ?_)
    · replace hc13 := of_decide_eq_true hc13
      refine TC.skip_next ?_
      refine TC.seq ?_
      refine TC.block ?_
      refine TC.seq ?_
      obtain ⟨c, hc⟩ : ∃ c, l[k]? = some c := ⟨l[k]'(by omega), List.getElem?_eq_getElem (by omega)⟩
      have hc60 : acc.length < 60 := by omega
      rw [imGo_step hc hc60] at hgo
      by_cases h32 : 32 ≤ c.toNat ∧ c.toNat ≤ 126
      · rw [if_pos h32] at hgo
        refine TC.region ?_
        refine TL.val (Yl.move rfl) rfl ?_
        refine TL.val (Yl.move rfl) rfl ?_
        refine TL.val (Yl.idxS Tryz.underlying9 rfl rfl rfl hc) rfl ?_
        refine TL.val (Yl.geq rfl rfl (decide_eq_true (by omega))) rfl ?_
        refine TL.val (Yl.move rfl) rfl ?_
        refine TL.yes rfl rfl rfl ?_
        refine TL.val (Yl.move rfl) rfl ?_
        refine TL.yes rfl rfl rfl ?_
        refine TL.val (Yl.move rfl) rfl ?_
        refine TL.yes rfl rfl rfl ?_
        refine TL.val (Yl.idxS Tryz.underlying9 rfl rfl rfl hc) rfl ?_
        refine TL.yes rfl rfl rfl ?_
        refine TL.val (Yl.leq rfl rfl (decide_eq_true (by omega))) rfl ?_
        refine TL.val (Yl.pickT rfl rfl) rfl ?_
        refine TL.next ?_
        refine TC.yes rfl ?_
        refine TC.region ?_
        refine TL.val (Yl.move rfl) rfl ?_
        refine TL.val (Yl.move rfl) rfl ?_
        refine TL.val (Yl.move rfl) rfl ?_
        refine TL.val (Yl.idxS Tryz.underlying9 rfl rfl rfl hc) rfl ?_
        refine TL.eff (Eff.lits1 [_] (vs := bV [c]) Tryz.underlying40 sz5 zr5 rfl ⟨rfl, trivial⟩ rfl rfl rfl) rfl fun b30 => ?_
        refine TL.eff (Eff.appB (news := [c]) (R := Fr) Tryz.underlying40 Tryz.underlying40 (.inl ⟨_, rfl⟩) sz5 by5 zr5 rfl rfl hv (fun _ h => h.sub (.cons _ (.refl _))) (Src.slB .head rfl) rfl (by show acc.length + 1 ≤ _; omega)) rfl fun p => ?_
        refine TL.val (Yl.assign rfl) rfl ?_
        refine TL.next ?_
        refine TC.region ?_
        refine TL.val (Yl.move rfl) rfl ?_
        refine TL.val (Yl.add rfl rfl (wI (by omega))) rfl ?_
        refine TL.val (Yl.assign rfl) rfl ?_
        exact TL.done (Inv.again (k + 1, acc ++ [c], p.1.1, p.1.2) ⟨by show k + 1 ≤ _; omega, p.2, by show (acc ++ [c]).length ≤ 60; rw [List.length_append]; show acc.length + 1 ≤ 60; omega, hgo⟩ (show l.length - (k + 1) < l.length - k by omega) ⟨rfl, rfl, rfl, trivial⟩ (fun _ h => h))
      · rw [if_neg h32] at hgo
        by_cases h33 : 32 ≤ c.toNat
        · refine TC.region ?_
          refine TL.val (Yl.move rfl) rfl ?_
          refine TL.val (Yl.move rfl) rfl ?_
          refine TL.val (Yl.idxS Tryz.underlying9 rfl rfl rfl hc) rfl ?_
          refine TL.val (Yl.geq rfl rfl (decide_eq_true (by omega))) rfl ?_
          refine TL.val (Yl.move rfl) rfl ?_
          refine TL.yes rfl rfl rfl ?_
          refine TL.val (Yl.move rfl) rfl ?_
          refine TL.yes rfl rfl rfl ?_
          refine TL.val (Yl.move rfl) rfl ?_
          refine TL.yes rfl rfl rfl ?_
          refine TL.val (Yl.idxS Tryz.underlying9 rfl rfl rfl hc) rfl ?_
          refine TL.yes rfl rfl rfl ?_
          refine TL.val (Yl.leq rfl rfl (decide_eq_false (by omega))) rfl ?_
          refine TL.val (Yl.pickT rfl rfl) rfl ?_
          refine TL.next ?_
          refine TC.no rfl ?_
          refine TC.skip_next ?_
          refine TC.region ?_
          refine TL.val (Yl.move rfl) rfl ?_
          refine TL.val (Yl.add rfl rfl (wI (by omega))) rfl ?_
          refine TL.val (Yl.assign rfl) rfl ?_
          exact TL.done (Inv.again (k + 1, acc, v, H1) ⟨by show k + 1 ≤ _; omega, hv, hal, hgo⟩ (show l.length - (k + 1) < l.length - k by omega) ⟨rfl, rfl, rfl, trivial⟩ (fun _ h => h))
        · refine TC.region ?_
          refine TL.val (Yl.move rfl) rfl ?_
          refine TL.val (Yl.move rfl) rfl ?_
          refine TL.val (Yl.idxS Tryz.underlying9 rfl rfl rfl hc) rfl ?_
          refine TL.val (Yl.geq rfl rfl (decide_eq_false (by omega))) rfl ?_
          refine TL.val (Yl.move rfl) rfl ?_
          refine TL.no rfl rfl rfl rfl rfl ?_
          refine TL.no rfl rfl rfl rfl rfl ?_
          refine TL.no rfl rfl rfl rfl rfl ?_
          refine TL.no rfl rfl rfl rfl rfl ?_
          refine TL.val (Yl.pickF rfl rfl) rfl ?_
          refine TL.next ?_
          refine TC.no rfl ?_
          refine TC.skip_next ?_
          refine TC.region ?_
          refine TL.val (Yl.move rfl) rfl ?_
          refine TL.val (Yl.add rfl rfl (wI (by omega))) rfl ?_
          refine TL.val (Yl.assign rfl) rfl ?_
          exact TL.done (Inv.again (k + 1, acc, v, H1) ⟨by show k + 1 ≤ _; omega, hv, hal, hgo⟩ (show l.length - (k + 1) < l.length - k by omega) ⟨rfl, rfl, rfl, trivial⟩ (fun _ h => h))
    · replace hc13 := of_decide_eq_false hc13
      refine TC.exit_next rfl ?_
      refine TC.seq ?_
      rw [imGo_stop (by omega)] at hgo
      subst hgo
      refine TC.region ?_
      refine TL.val (Yl.move rfl) rfl ?_
      refine TL.val (SlB.read hv Tryz.underlying40 Tryz.underlying5 Tryz.underlying9 rfl) rfl ?_
      refine TL.val (Yl.assign rfl) rfl ?_
      refine TL.next ?_
      exact TC.back1 () rfl rfl (fun _ h => h.sub (List.sublist_append_right _ _))
  · refine TC.region ?_
    refine TL.val (Yl.move rfl) rfl ?_
    refine TL.val (Yl.move rfl) rfl ?_
    refine TL.val (Yl.lenS Tryz.underlying9 rfl) rfl ?_
    refine TL.val (Yl.lss rfl rfl (decide_eq_false (by omega))) rfl ?_
    refine TL.val (Yl.move rfl) rfl ?_
    refine TL.no rfl rfl rfl rfl rfl ?_
    refine TL.no rfl rfl rfl rfl rfl ?_
    refine TL.no rfl rfl rfl rfl rfl ?_
    refine TL.val (Yl.pickF rfl rfl) rfl ?_
    refine TL.next ?_
    refine TC.no rfl ?_
    refine TC.exit_next rfl ?_
    refine TC.seq ?_
    rw [show l.drop k = [] from List.drop_eq_nil_of_le (by omega)] at hgo
    have hgo : acc = imT l := hgo
    subst hgo
    refine TC.region ?_
    refine TL.val (Yl.move rfl) rfl ?_
    refine TL.val (SlB.read hv Tryz.underlying40 Tryz.underlying5 Tryz.underlying9 rfl) rfl ?_
    refine TL.val (Yl.assign rfl) rfl ?_
    refine TL.next ?_
    exact TC.back1 () rfl rfl (fun _ h => h.sub (List.sublist_append_right _ _))
end Go.Proofs.YtlhncphipfkkjaaGreatDoor

/- The texts that the spec writes: a tar of entries, a gzip of stored blocks. -/
namespace Go.Proofs.YtlhncphipfkkjaaGreatDoor
open Go

/-! ## gzip -/
def gzM (d : List UInt8) (c pos : Nat) : Nat := Nat.min c (d.length - pos)
def gzBlk (d : List UInt8) (c pos : Nat) (fin : UInt8) : List UInt8 :=
  [fin, toU8 (gzM d c pos : Int), toU8 ((gzM d c pos : Int) / 2 ^ 8), ~~~ toU8 (gzM d c pos : Int), ~~~ toU8 ((gzM d c pos : Int) / 2 ^ 8)] ++ (d.take (pos + gzM d c pos)).drop pos
def gzEnd (d : List UInt8) : List UInt8 := four (~~~ crcL 4294967295 d) ++ four (toU32 (d.length : Int))
def gzR (d : List UInt8) (c : Nat) : Nat → Nat → List UInt8
  | 0, _ => []
  | f + 1, pos => if pos + gzM d c pos = d.length then gzBlk d c pos 1 ++ gzEnd d else gzBlk d c pos 0 ++ gzR d c f (pos + c)
def gzHead : List UInt8 := [31, 139, 8, 0, 0, 0, 0, 0, 0, 255]
def gz (d : List UInt8) (c : Nat) : List UInt8 := gzHead ++ gzR d c (d.length + 1) 0
theorem gzM_le (d : List UInt8) (c pos : Nat) : gzM d c pos ≤ c := Nat.min_le_left _ _
theorem gzM_le2 (d : List UInt8) (c pos : Nat) : gzM d c pos ≤ d.length - pos := Nat.min_le_right _ _
theorem gzM_lt {d : List UInt8} {c pos : Nat} (h : pos + gzM d c pos ≠ d.length) (hp : pos ≤ d.length) : gzM d c pos = c ∧ pos + c < d.length := by
  unfold gzM at *
  rcases Nat.le_total c (d.length - pos) with h1 | h1
  · rw [show Nat.min c (d.length - pos) = c from Nat.min_eq_left h1] at *; omega
  · rw [show Nat.min c (d.length - pos) = d.length - pos from Nat.min_eq_right h1] at *; omega

/-! ## tar -/
structure TE where
  (name link data : List UInt8)
  (flag : UInt8)
  (mode : Nat)
def TE.v (e : TE) : List Value := [vS e.name, vS e.link, vS e.data, .int .u8 (e.flag.toNat : Int), .int .i64 (e.mode : Int), .int .i64 0]
def flatT (es : List TE) : List Value := es.flatMap TE.v
theorem flatT_length (es : List TE) : (flatT es).length = es.length * 6 := by
  induction es with
  | nil => rfl
  | cons e es ih => simp only [flatT, List.flatMap_cons, List.length_append, List.length_cons] at *; rw [ih]; simp only [TE.v, List.length_cons, List.length_nil]; omega
theorem flatT_get (es : List TE) (k : Nat) (e : TE) (h : es[k]? = some e) : ((flatT es).drop (6 * k)).take 6 = e.v := by
  induction es generalizing k with
  | nil => simp at h
  | cons e' es ih =>
    cases k with
    | zero => simp at h; subst h; simp [flatT, TE.v]
    | succ k =>
      simp at h
      have := ih k h
      simp only [flatT, List.flatMap_cons] at *
      rw [show 6 * (k + 1) = (TE.v e').length + 6 * k by simp [TE.v]; omega, ← List.drop_drop, List.drop_left]
      exact this
/-- octal with a NUL -/
def tarA (e : TE) : List UInt8 := padN e.name 100 ++ octal e.mode 7 ++ octal 0 7 ++ octal 0 7 ++ octal e.data.length 11 ++ octal 0 11
def ustarB : List UInt8 := [117, 115, 116, 97, 114, 0, 48, 48]
def tarZ (e : TE) : List UInt8 := [e.flag] ++ padN e.link 100 ++ ustarB ++ padN [] 64 ++ octal 0 7 ++ octal 0 7 ++ padN [] 167
def sumB (l : List UInt8) : Nat := (l.map UInt8.toNat).sum
theorem sumB_snoc {l : List UInt8} {k : Nat} {c : UInt8} (h : l[k]? = some c) : sumB (l.take (k + 1)) = sumB (l.take k) + c.toNat := by
  obtain ⟨hlt, rfl⟩ := List.getElem?_eq_some_iff.1 h
  rw [List.take_succ_eq_append_getElem hlt, sumB, List.map_append, List.sum_append]; rfl
theorem sumB_le (l : List UInt8) : sumB l ≤ 255 * l.length := by
  induction l with
  | nil => simp [sumB]
  | cons c l ih => simp only [sumB, List.map_cons, List.sum_cons, List.length_cons] at *; have := c.toNat_lt; omega
def tarSum (e : TE) : Nat := 256 + sumB (tarA e ++ tarZ e)
def tarHead (e : TE) : List UInt8 := tarA e ++ octal (tarSum e) 6 ++ [32] ++ tarZ e
theorem octal_length (n k : Nat) : (octal n k).length = k + 1 := by simp [octal, octD_length]
theorem tarA_length (e : TE) : (tarA e).length = 148 := by simp only [tarA, List.length_append, padN_length, octal_length]
theorem tarZ_length (e : TE) : (tarZ e).length = 356 := by simp only [tarZ, List.length_append, padN_length, octal_length]; rfl
theorem tarHead_length (e : TE) : (tarHead e).length = 512 := by simp only [tarHead, List.length_append, tarA_length, tarZ_length, octal_length]; rfl
def padLen (n : Nat) : Nat := (512 - n % 512) % 512
def tarOne (e : TE) : List UInt8 := tarHead e ++ e.data ++ padN [] (padLen e.data.length)
def tarN (es : List TE) : Nat → List UInt8
  | 0 => []
  | k + 1 => tarN es k ++ (match es[k]? with | some e => tarOne e | none => [])
def tarT (es : List TE) : List UInt8 := tarN es es.length ++ padN [] 1024
theorem tarN_succ {es : List TE} {k : Nat} {e : TE} (h : es[k]? = some e) : tarN es (k + 1) = tarN es k ++ tarOne e := by simp [tarN, h]
theorem tarOne_length (e : TE) : (tarOne e).length = 512 + e.data.length + padLen e.data.length := by simp only [tarOne, List.length_append, tarHead_length, padN_length]
theorem tarN_length (es : List TE) (k B : Nat) (h : ∀ e ∈ es, e.data.length ≤ B) : (tarN es k).length ≤ k * (1024 + B) := by
  induction k with
  | zero => simp [tarN]
  | succ k ih =>
    rw [tarN, List.length_append, Nat.succ_mul]
    cases he : es[k]? with
    | none => simp; omega
    | some e =>
      have := h e (List.mem_of_getElem? he)
      have h2 : padLen e.data.length < 512 := Nat.mod_lt _ (by decide)
      simp only [tarOne_length]
      omega
end Go.Proofs.YtlhncphipfkkjaaGreatDoor

namespace Go.Proofs.YtlhncphipfkkjaaGreatDoor
open Go
theorem gzM_int {d : List UInt8} {c pos : Nat} (h : pos ≤ d.length) : (if ((d.length : Int) - pos) < (c : Int) then ((d.length : Int) - pos) else (c : Int)) = ((gzM d c pos : Nat) : Int) := by
  unfold gzM; rcases Nat.le_total c (d.length - pos) with h1 | h1
  · rw [show Nat.min c (d.length - pos) = c from Nat.min_eq_left h1, if_neg (by omega)]
  · rw [show Nat.min c (d.length - pos) = d.length - pos from Nat.min_eq_right h1]; split <;> omega
theorem gzip_q (d : List UInt8) (c : Nat) (hd : d.length ≤ 4294967296) (hc : 1 ≤ c) (hc2 : c ≤ 1000000) : Quiet Tryz.prog 6 #[vS d, .int .i64 (c : Int)] [] (vS (gz d c)) := by
  refine Quiet.of_gives fun g Fr => ?_
  refine Gives.enter Tryz.func6 rfl Tryz.ntmps6 rfl ?_
  refine TC.seq ?_
  refine TC.region ?_
  refine TL.val (Yl.assign rfl) rfl ?_
  refine TL.next ?_
  refine TC.seq ?_
  refine TC.region ?_
  refine TL.val (Yl.assign rfl) rfl ?_
  refine TL.next ?_
  refine TC.seq ?_
  refine TC.region ?_
  refine TL.val (Yl.assign rfl) rfl ?_
  refine TL.next ?_
  refine TC.block ?_
  refine TC.loopI (σ := Nat × Nat × List UInt8) (fun p => [(0, vS d), (1, .int .i64 (c : Int)), (5, vS p.2.2), (6, .int .i64 (p.2.1 : Int))]) (fun p => Fr) (fun p => d.length < p.2.1 + p.1 ∧ p.2.1 ≤ d.length ∧ p.2.2 ++ gzR d c p.1 p.2.1 = gz d c ∧ p.2.2.length ≤ 10 + 6 * p.2.1) (fun p => p.1) (d.length + 1, 0, gzHead) ⟨rfl, rfl, rfl, rfl, trivial⟩ (fun _ h => h) ⟨by show _ < 0 + (d.length + 1); omega, Nat.zero_le _, rfl, Nat.le_refl _⟩ (fun p hp => ?_)
  obtain ⟨f, pos, acc⟩ := p
  obtain ⟨h1, h2, hgo, hal⟩ := hp
  dsimp only at h1 h2 hgo hal ⊢
  obtain ⟨f, rfl⟩ : ∃ f', f = f' + 1 := ⟨f - 1, by omega⟩
  have hm1 := gzM_le d c pos
  have hm2 := gzM_le2 d c pos
  refine TC.seq ?_
  refine TC.block ?_
  refine TC.seq ?_
  refine TC.region ?_
  refine TL.val (Yl.move rfl) rfl ?_
  refine TL.val (Yl.move rfl) rfl ?_
  refine TL.val (Yl.lenS Tryz.underlying9 rfl) rfl ?_
  refine TL.val (Yl.move rfl) rfl ?_
  refine TL.val (Yl.sub rfl rfl (wI (by omega))) rfl ?_
  refine TL.val (Yl.min2 (r := (gzM d c pos : Nat)) rfl rfl (gzM_int h2)) rfl ?_
  refine TL.val (Yl.assign rfl) rfl ?_
  refine TL.next ?_
  refine TC.seq ?_
  by_cases hfin : pos + gzM d c pos = d.length
  · rw [gzR, if_pos hfin] at hgo
    refine TC.region ?_
    refine TL.val (Yl.move rfl) rfl ?_
    refine TL.val (Yl.move rfl) rfl ?_
    refine TL.val (Yl.add rfl rfl (wI (by omega))) rfl ?_
    refine TL.val (Yl.move rfl) rfl ?_
    refine TL.val (Yl.lenS Tryz.underlying9 rfl) rfl ?_
    refine TL.val (Yl.eql rfl rfl (decide_eq_true (by omega))) rfl ?_
    refine TL.val (Yl.assign rfl) rfl ?_
    refine TL.next ?_
    refine TC.seq ?_
    refine TC.region ?_
    refine TL.val (Yl.assign rfl) rfl ?_
    refine TL.next ?_
    refine TC.seq ?_
    refine TC.seq ?_
    refine TC.region ?_
    refine TL.val (Yl.move rfl) rfl ?_
    refine TL.next ?_
    refine TC.yes rfl ?_
    refine TC.region ?_
    refine TL.val (Yl.assign rfl) rfl ?_
    refine TL.next ?_
    refine TC.seq ?_
    have hbl : (gzBlk d c pos 1).length = 5 + gzM d c pos := by
      simp only [gzBlk, List.length_append, List.length_drop, List.length_take, List.length_cons, List.length_nil]; omega
    refine TC.draws [] _ mixed (by kernel_rfl) rfl (fun _ h => h) ?_
    refine TA.pure 0 rfl (by kernel_rfl) (Yl.move rfl) rfl ?_
    refine TA.pure 1 rfl (by kernel_rfl) (Yl.move rfl) rfl ?_
    refine TA.pure 2 rfl (by kernel_rfl) (Yl.move rfl) rfl ?_
    refine TA.pure 3 rfl (by kernel_rfl) (Yl.conv Tryz.underlying3 Tryz.underlying5 rfl (w8 _)) rfl ?_
    refine TA.pure 4 rfl (by kernel_rfl) (Yl.move rfl) rfl ?_
    refine TA.pure 5 rfl (by kernel_rfl) (Yl.shrI (c := 8) rfl rfl rfl) rfl ?_
    refine TA.pure 6 rfl (by kernel_rfl) (Yl.conv Tryz.underlying3 Tryz.underlying5 rfl (w8 _)) rfl ?_
    refine TA.pure 7 rfl (by kernel_rfl) (Yl.move rfl) rfl ?_
    refine TA.pure 8 rfl (by kernel_rfl) (Yl.conv Tryz.underlying3 Tryz.underlying5 rfl (w8 _)) rfl ?_
    refine TA.pure 9 rfl (by kernel_rfl) (Yl.not8 rfl) rfl ?_
    refine TA.pure 10 rfl (by kernel_rfl) (Yl.move rfl) rfl ?_
    refine TA.pure 11 rfl (by kernel_rfl) (Yl.shrI (c := 8) rfl rfl rfl) rfl ?_
    refine TA.pure 12 rfl (by kernel_rfl) (Yl.conv Tryz.underlying3 Tryz.underlying5 rfl (w8 _)) rfl ?_
    refine TA.pure 13 rfl (by kernel_rfl) (Yl.not8 rfl) rfl ?_
    refine TA.pure 16 rfl (by kernel_rfl) (Yl.move rfl) rfl ?_
    refine TA.pure 17 rfl (by kernel_rfl) (Yl.move rfl) rfl ?_
    refine TA.pure 18 rfl (by kernel_rfl) (Yl.move rfl) rfl ?_
    refine TA.pure 19 rfl (by kernel_rfl) (Yl.move rfl) rfl ?_
    refine TA.pure 20 rfl (by kernel_rfl) (Yl.add rfl rfl (wI (by omega))) rfl ?_
    refine TA.pure 21 rfl (by kernel_rfl) (Yl.sliceSLH (i := pos) (j := pos + gzM d c pos) Tryz.underlying9 rfl rfl rfl rfl (by omega) (by omega) (by omega)) rfl ?_
    refine TA.one 14 (by kernel_rfl) ?_
    refine Up.eff rfl rfl (Eff.lits1 [_, _, _, _, _] (vs := bV [(1 : UInt8), toU8 (gzM d c pos : Int), toU8 ((gzM d c pos : Int) / 2 ^ 8), ~~~ toU8 (gzM d c pos : Int), ~~~ toU8 ((gzM d c pos : Int) / 2 ^ 8)]) Tryz.underlying40 sz5 zr5 rfl ⟨rfl, rfl, rfl, rfl, rfl, trivial⟩ rfl rfl rfl) rfl (fun _ => .inr (fun _ h => h.sub (by repeat (first | exact List.Sublist.refl _ | refine List.Sublist.cons_cons _ ?_ | refine List.Sublist.cons _ ?_)))) fun b40 => ?_
    refine TA.one 15 (by kernel_rfl) ?_
    refine Up.val rfl rfl (Yl.strB (l := [(1 : UInt8), toU8 (gzM d c pos : Int), toU8 ((gzM d c pos : Int) / 2 ^ 8), ~~~ toU8 (gzM d c pos : Int), ~~~ toU8 ((gzM d c pos : Int) / 2 ^ 8)]) (m := [(1 : UInt8), toU8 (gzM d c pos : Int), toU8 ((gzM d c pos : Int) / 2 ^ 8), ~~~ toU8 (gzM d c pos : Int), ~~~ toU8 ((gzM d c pos : Int) / 2 ^ 8)]) Tryz.underlying40 Tryz.underlying5 Tryz.underlying9 rfl (by repeat (first | exact Foc.head | apply Foc.tail)) rfl (Nat.le_refl 5)) rfl (.inr (fun _ h => h.sub (by repeat (first | exact List.Sublist.refl _ | refine List.Sublist.cons_cons _ ?_ | refine List.Sublist.cons _ ?_)))) ?_
    refine TA.pure 22 rfl (by kernel_rfl) (Yl.addS rfl rfl (by rw [List.length_drop, List.length_take]; simp only [List.length_cons, List.length_nil]; omega)) rfl ?_
    refine TA.pure 23 rfl (by kernel_rfl) (Yl.addS (b := gzBlk d c pos 1) rfl rfl (by omega)) rfl ?_
    refine TA.pure 24 rfl (by kernel_rfl) (Yl.assign rfl) rfl ?_
    refine TA.next (by kernel_rfl) ?_
    refine TC.seq ?_
    refine TC.region ?_
    refine TL.val (Yl.move rfl) rfl ?_
    refine TL.next ?_
    refine TC.yes rfl ?_
    refine TC.seq ?_
    refine TC.region ?_
    refine TL.val (Yl.move rfl) rfl ?_
    refine TL.val (Yl.move rfl) rfl ?_
    refine TL.quiet (Cll.func (xs := [_]) (vs := [_]) Tryz.func14 rfl (by kernel_rfl) ⟨rfl, trivial⟩) rfl (Quiet.none (gzipSum_q _ (by omega))) ?_
    refine TL.quiet (Cll.func (xs := [_]) (vs := [_]) Tryz.func13 rfl (by kernel_rfl) ⟨rfl, trivial⟩) rfl (Quiet.none (gzipFour_q _)) ?_
    refine TL.val (Yl.addS rfl rfl (by rw [List.length_append]; show _ + 4 ≤ _; omega)) rfl ?_
    refine TL.val (Yl.move rfl) rfl ?_
    refine TL.val (Yl.lenS Tryz.underlying9 rfl) rfl ?_
    refine TL.val (Yl.conv Tryz.underlying3 Tryz.underlying42 rfl (w32 _)) rfl ?_
    refine TL.quiet (Cll.func (xs := [_]) (vs := [_]) Tryz.func13 rfl (by kernel_rfl) ⟨rfl, trivial⟩) rfl (Quiet.none (gzipFour_q _)) ?_
    refine TL.val (Yl.addS rfl rfl (by rw [List.length_append, List.length_append]; show _ + 4 + 4 ≤ _; omega)) rfl ?_
    refine TL.val (Yl.assign rfl) rfl ?_
    refine TL.next ?_
    rw [← hgo]
    exact TC.back1 () rfl (by simp only [gzEnd, List.append_assoc]; rfl) (fun _ h => h.sub (by repeat (first | exact List.Sublist.refl _ | refine List.Sublist.cons_cons _ ?_ | refine List.Sublist.cons _ ?_)))
  · rw [gzR, if_neg hfin] at hgo
    have hm3 := gzM_lt hfin h2
    refine TC.region ?_
    refine TL.val (Yl.move rfl) rfl ?_
    refine TL.val (Yl.move rfl) rfl ?_
    refine TL.val (Yl.add rfl rfl (wI (by omega))) rfl ?_
    refine TL.val (Yl.move rfl) rfl ?_
    refine TL.val (Yl.lenS Tryz.underlying9 rfl) rfl ?_
    refine TL.val (Yl.eql rfl rfl (decide_eq_false (by omega))) rfl ?_
    refine TL.val (Yl.assign rfl) rfl ?_
    refine TL.next ?_
    refine TC.seq ?_
    refine TC.region ?_
    refine TL.val (Yl.assign rfl) rfl ?_
    refine TL.next ?_
    refine TC.seq ?_
    refine TC.seq ?_
    refine TC.region ?_
    refine TL.val (Yl.move rfl) rfl ?_
    refine TL.next ?_
    refine TC.no rfl ?_
    refine TC.skip_next ?_
    refine TC.seq ?_
    have hbl : (gzBlk d c pos 0).length = 5 + gzM d c pos := by
      simp only [gzBlk, List.length_append, List.length_drop, List.length_take, List.length_cons, List.length_nil]; omega
    refine TC.draws [] _ mixed (by kernel_rfl) rfl (fun _ h => h) ?_
    refine TA.pure 0 rfl (by kernel_rfl) (Yl.move rfl) rfl ?_
    refine TA.pure 1 rfl (by kernel_rfl) (Yl.move rfl) rfl ?_
    refine TA.pure 2 rfl (by kernel_rfl) (Yl.move rfl) rfl ?_
    refine TA.pure 3 rfl (by kernel_rfl) (Yl.conv Tryz.underlying3 Tryz.underlying5 rfl (w8 _)) rfl ?_
    refine TA.pure 4 rfl (by kernel_rfl) (Yl.move rfl) rfl ?_
    refine TA.pure 5 rfl (by kernel_rfl) (Yl.shrI (c := 8) rfl rfl rfl) rfl ?_
    refine TA.pure 6 rfl (by kernel_rfl) (Yl.conv Tryz.underlying3 Tryz.underlying5 rfl (w8 _)) rfl ?_
    refine TA.pure 7 rfl (by kernel_rfl) (Yl.move rfl) rfl ?_
    refine TA.pure 8 rfl (by kernel_rfl) (Yl.conv Tryz.underlying3 Tryz.underlying5 rfl (w8 _)) rfl ?_
    refine TA.pure 9 rfl (by kernel_rfl) (Yl.not8 rfl) rfl ?_
    refine TA.pure 10 rfl (by kernel_rfl) (Yl.move rfl) rfl ?_
    refine TA.pure 11 rfl (by kernel_rfl) (Yl.shrI (c := 8) rfl rfl rfl) rfl ?_
    refine TA.pure 12 rfl (by kernel_rfl) (Yl.conv Tryz.underlying3 Tryz.underlying5 rfl (w8 _)) rfl ?_
    refine TA.pure 13 rfl (by kernel_rfl) (Yl.not8 rfl) rfl ?_
    refine TA.pure 16 rfl (by kernel_rfl) (Yl.move rfl) rfl ?_
    refine TA.pure 17 rfl (by kernel_rfl) (Yl.move rfl) rfl ?_
    refine TA.pure 18 rfl (by kernel_rfl) (Yl.move rfl) rfl ?_
    refine TA.pure 19 rfl (by kernel_rfl) (Yl.move rfl) rfl ?_
    refine TA.pure 20 rfl (by kernel_rfl) (Yl.add rfl rfl (wI (by omega))) rfl ?_
    refine TA.pure 21 rfl (by kernel_rfl) (Yl.sliceSLH (i := pos) (j := pos + gzM d c pos) Tryz.underlying9 rfl rfl rfl rfl (by omega) (by omega) (by omega)) rfl ?_
    refine TA.one 14 (by kernel_rfl) ?_
    refine Up.eff rfl rfl (Eff.lits1 [_, _, _, _, _] (vs := bV [(0 : UInt8), toU8 (gzM d c pos : Int), toU8 ((gzM d c pos : Int) / 2 ^ 8), ~~~ toU8 (gzM d c pos : Int), ~~~ toU8 ((gzM d c pos : Int) / 2 ^ 8)]) Tryz.underlying40 sz5 zr5 rfl ⟨rfl, rfl, rfl, rfl, rfl, trivial⟩ rfl rfl rfl) rfl (fun _ => .inr (fun _ h => h.sub (by repeat (first | exact List.Sublist.refl _ | refine List.Sublist.cons_cons _ ?_ | refine List.Sublist.cons _ ?_)))) fun b40 => ?_
    refine TA.one 15 (by kernel_rfl) ?_
    refine Up.val rfl rfl (Yl.strB (l := [(0 : UInt8), toU8 (gzM d c pos : Int), toU8 ((gzM d c pos : Int) / 2 ^ 8), ~~~ toU8 (gzM d c pos : Int), ~~~ toU8 ((gzM d c pos : Int) / 2 ^ 8)]) (m := [(0 : UInt8), toU8 (gzM d c pos : Int), toU8 ((gzM d c pos : Int) / 2 ^ 8), ~~~ toU8 (gzM d c pos : Int), ~~~ toU8 ((gzM d c pos : Int) / 2 ^ 8)]) Tryz.underlying40 Tryz.underlying5 Tryz.underlying9 rfl (by repeat (first | exact Foc.head | apply Foc.tail)) rfl (Nat.le_refl 5)) rfl (.inr (fun _ h => h.sub (by repeat (first | exact List.Sublist.refl _ | refine List.Sublist.cons_cons _ ?_ | refine List.Sublist.cons _ ?_)))) ?_
    refine TA.pure 22 rfl (by kernel_rfl) (Yl.addS rfl rfl (by rw [List.length_drop, List.length_take]; simp only [List.length_cons, List.length_nil]; omega)) rfl ?_
    refine TA.pure 23 rfl (by kernel_rfl) (Yl.addS (b := gzBlk d c pos 0) rfl rfl (by omega)) rfl ?_
    refine TA.pure 24 rfl (by kernel_rfl) (Yl.assign rfl) rfl ?_
    refine TA.next (by kernel_rfl) ?_
    refine TC.seq ?_
    refine TC.region ?_
    refine TL.val (Yl.move rfl) rfl ?_
    refine TL.next ?_
    refine TC.no rfl ?_
    refine TC.skip_next ?_
    refine TC.region ?_
    refine TL.val (Yl.move rfl) rfl ?_
    refine TL.val (Yl.move rfl) rfl ?_
    refine TL.val (Yl.add rfl rfl (wI (by omega))) rfl ?_
    refine TL.val (Yl.assign rfl) rfl ?_
    exact TL.done (Inv.again (f, pos + c, acc ++ gzBlk d c pos 0) ⟨by show _ < pos + c + f; omega, by show pos + c ≤ _; omega, by show (acc ++ gzBlk d c pos 0) ++ gzR d c f (pos + c) = _; rw [List.append_assoc]; exact hgo, by show (acc ++ gzBlk d c pos 0).length ≤ 10 + 6 * (pos + c); rw [List.length_append]; omega⟩ (Nat.lt_succ_self f) ⟨rfl, rfl, rfl, rfl, trivial⟩ (fun _ h => h.sub (by repeat (first | exact List.Sublist.refl _ | refine List.Sublist.cons_cons _ ?_ | refine List.Sublist.cons _ ?_))))
theorem tarHead_q (e : TE) (hn : e.name.length ≤ 100) (hd : e.data.length ≤ 1000000) (hm : e.mode ≤ 1000000) : Quiet Tryz.prog 11 #[.agg ⟨e.v⟩] [] (vS (tarHead e)) := by
  refine Quiet.of_gives fun g Fr => ?_
  refine Gives.enter Tryz.func11 rfl Tryz.ntmps11 rfl ?_
  have hz504 : (tarA e ++ tarZ e).length = 504 := by rw [List.length_append, tarA_length, tarZ_length]
  refine TC.seq ?_
  refine TC.region ?_
  refine TL.eff (Eff.box (v := .agg ⟨e.v⟩) rfl rfl) rfl fun b1 => ?_
  refine TL.val (Yl.assign rfl) rfl ?_
  refine TL.next ?_
  refine TC.seq ?_
  refine TC.region ?_
  refine TL.val (Yl.fieldAddr (k := 9) (m := 0) (o := 0) Tryz.underlying35 rfl sz9 rfl rfl) rfl ?_
  refine TL.val (Yl.load1 Tryz.underlying9 rfl rfl (by repeat (first | exact Foc.head | apply Foc.tail)) rfl) rfl ?_
  refine TL.val (Yl.assign rfl) rfl ?_
  refine TL.val (Yl.assign rfl) rfl ?_
  refine TL.next ?_
  refine TC.seq ?_
  refine TC.seq ?_
  refine TC.region ?_
  refine TL.val (Yl.move rfl) rfl ?_
  refine TL.val (Yl.lenS Tryz.underlying9 rfl) rfl ?_
  refine TL.val (Yl.sub rfl rfl (wI (by omega))) rfl ?_
  refine TL.val (Yl.assign rfl) rfl ?_
  refine TL.next ?_
  refine TC.block ?_
  refine TC.loopI (σ := Unit) (fun u => [(1, pt b1 0), (3, vS e.name), (4, vS []), (5, .int .i64 ((e.name.length : Int) - 1))]) (fun u => (b1, oC e.v 35) :: Fr) (fun u => True) (fun u => 0) () ⟨rfl, rfl, rfl, rfl, trivial⟩ (fun _ h => h) trivial (fun u hu => ?_)
  refine TC.seq ?_
  refine TC.seq ?_
  by_cases hn1 : 1 < e.name.length
  · refine TC.region ?_
    refine TL.val (Yl.move rfl) rfl ?_
    refine TL.val (Yl.gtr rfl rfl (decide_eq_true (by omega))) rfl ?_
    refine TL.val (Yl.move rfl) rfl ?_
    refine TL.yes rfl rfl rfl ?_
    refine TL.val (Yl.fieldAddr (k := 9) (m := 0) (o := 0) Tryz.underlying35 rfl sz9 rfl rfl) rfl ?_
    refine TL.yes rfl rfl rfl ?_
    refine TL.val (Yl.load1 Tryz.underlying9 rfl rfl (by repeat (first | exact Foc.head | apply Foc.tail)) rfl) rfl ?_
    refine TL.yes rfl rfl rfl ?_
    refine TL.val (Yl.lenS Tryz.underlying9 rfl) rfl ?_
    refine TL.yes rfl rfl rfl ?_
    refine TL.val (Yl.gtr rfl rfl (decide_eq_false (by omega))) rfl ?_
    refine TL.val (Yl.pickT rfl rfl) rfl ?_
    refine TL.next ?_
    refine TC.no rfl ?_
    refine TC.exit_next rfl ?_
    refine TC.seq ?_
    refine TC.draws [] _ mixed (by kernel_rfl) rfl (fun _ h => h) ?_
    refine TA.pure 0 rfl (by kernel_rfl) (Yl.move rfl) rfl ?_
    refine TA.quiet 1 rfl (by kernel_rfl) (Cll.func (xs := [_, _]) (vs := [_, _]) Tryz.func12 rfl (by kernel_rfl) ⟨rfl, rfl, trivial⟩) rfl (Quiet.none (tarField_q _ 100 (by decide))) ?_
    refine TA.pure 2 rfl (by kernel_rfl) (Yl.fieldAddr (k := 3) (m := 4) (o := 4) Tryz.underlying35 rfl sz3 rfl rfl) rfl ?_
    refine TA.load 3 rfl (by kernel_rfl) (Yl.load1 Tryz.underlying3 rfl rfl (by repeat (first | exact Foc.head | apply Foc.tail)) rfl) rfl ?_
    refine TA.quiet 4 rfl (by kernel_rfl) (Cll.func (xs := [_, _]) (vs := [_, _]) Tryz.func21 rfl (by kernel_rfl) ⟨rfl, rfl, trivial⟩) rfl (Quiet.none (tarOctal_q e.mode 7 (by decide) (by omega))) ?_
    refine TA.pure 5 rfl (by kernel_rfl) (Yl.addS rfl rfl (by simp only [List.length_append, padN_length, octal_length, List.length_cons, List.length_nil]; omega)) rfl ?_
    refine TA.quiet 6 rfl (by kernel_rfl) (Cll.func (xs := [_, _]) (vs := [_, _]) Tryz.func21 rfl (by kernel_rfl) ⟨rfl, rfl, trivial⟩) rfl (Quiet.none (tarOctal_q 0 7 (by decide) (by omega))) ?_
    refine TA.pure 7 rfl (by kernel_rfl) (Yl.addS rfl rfl (by simp only [List.length_append, padN_length, octal_length, List.length_cons, List.length_nil]; omega)) rfl ?_
    refine TA.quiet 8 rfl (by kernel_rfl) (Cll.func (xs := [_, _]) (vs := [_, _]) Tryz.func21 rfl (by kernel_rfl) ⟨rfl, rfl, trivial⟩) rfl (Quiet.none (tarOctal_q 0 7 (by decide) (by omega))) ?_
    refine TA.pure 9 rfl (by kernel_rfl) (Yl.addS rfl rfl (by simp only [List.length_append, padN_length, octal_length, List.length_cons, List.length_nil]; omega)) rfl ?_
    refine TA.pure 10 rfl (by kernel_rfl) (Yl.fieldAddr (k := 9) (m := 2) (o := 2) Tryz.underlying35 rfl sz9 rfl rfl) rfl ?_
    refine TA.load 11 rfl (by kernel_rfl) (Yl.load1 Tryz.underlying9 rfl rfl (by repeat (first | exact Foc.head | apply Foc.tail)) rfl) rfl ?_
    refine TA.pure 12 rfl (by kernel_rfl) (Yl.lenS Tryz.underlying9 rfl) rfl ?_
    refine TA.quiet 13 rfl (by kernel_rfl) (Cll.func (xs := [_, _]) (vs := [_, _]) Tryz.func21 rfl (by kernel_rfl) ⟨rfl, rfl, trivial⟩) rfl (Quiet.none (tarOctal_q e.data.length 11 (by decide) (by omega))) ?_
    refine TA.pure 14 rfl (by kernel_rfl) (Yl.addS rfl rfl (by simp only [List.length_append, padN_length, octal_length, List.length_cons, List.length_nil]; omega)) rfl ?_
    refine TA.pure 15 rfl (by kernel_rfl) (Yl.fieldAddr (k := 3) (m := 5) (o := 5) Tryz.underlying35 rfl sz3 rfl rfl) rfl ?_
    refine TA.load 16 rfl (by kernel_rfl) (Yl.load1 Tryz.underlying3 rfl rfl (by repeat (first | exact Foc.head | apply Foc.tail)) rfl) rfl ?_
    refine TA.quiet 17 rfl (by kernel_rfl) (Cll.func (xs := [_, _]) (vs := [_, _]) Tryz.func21 rfl (by kernel_rfl) ⟨rfl, rfl, trivial⟩) rfl (Quiet.none (tarOctal_q 0 11 (by decide) (by omega))) ?_
    refine TA.pure 18 rfl (by kernel_rfl) (Yl.addS rfl rfl (by simp only [List.length_append, padN_length, octal_length, List.length_cons, List.length_nil]; omega)) rfl ?_
    refine TA.pure 19 rfl (by kernel_rfl) (Yl.assign rfl) rfl ?_
    refine TA.next (by kernel_rfl) ?_
    refine TC.seq ?_
    refine TC.draws [] _ mixed (by kernel_rfl) rfl (fun _ h => h) ?_
    refine TA.pure 0 rfl (by kernel_rfl) (Yl.fieldAddr (k := 5) (m := 3) (o := 3) Tryz.underlying35 rfl sz5 rfl rfl) rfl ?_
    refine TA.load 1 rfl (by kernel_rfl) (Yl.load1 Tryz.underlying5 rfl rfl (by repeat (first | exact Foc.head | apply Foc.tail)) rfl) rfl ?_
    refine TA.pure 4 rfl (by kernel_rfl) (Yl.fieldAddr (k := 9) (m := 1) (o := 1) Tryz.underlying35 rfl sz9 rfl rfl) rfl ?_
    refine TA.load 5 rfl (by kernel_rfl) (Yl.load1 Tryz.underlying9 rfl rfl (by repeat (first | exact Foc.head | apply Foc.tail)) rfl) rfl ?_
    refine TA.quiet 6 rfl (by kernel_rfl) (Cll.func (xs := [_, _]) (vs := [_, _]) Tryz.func12 rfl (by kernel_rfl) ⟨rfl, rfl, trivial⟩) rfl (Quiet.none (tarField_q _ 100 (by decide))) ?_
    refine TA.quiet 9 rfl (by kernel_rfl) (Cll.func (xs := [_, _]) (vs := [_, _]) Tryz.func12 rfl (by kernel_rfl) ⟨rfl, rfl, trivial⟩) rfl (Quiet.none (tarField_q _ 64 (by decide))) ?_
    refine TA.quiet 11 rfl (by kernel_rfl) (Cll.func (xs := [_, _]) (vs := [_, _]) Tryz.func21 rfl (by kernel_rfl) ⟨rfl, rfl, trivial⟩) rfl (Quiet.none (tarOctal_q 0 7 (by decide) (by omega))) ?_
    refine TA.quiet 13 rfl (by kernel_rfl) (Cll.func (xs := [_, _]) (vs := [_, _]) Tryz.func21 rfl (by kernel_rfl) ⟨rfl, rfl, trivial⟩) rfl (Quiet.none (tarOctal_q 0 7 (by decide) (by omega))) ?_
    refine TA.pure 15 rfl (by kernel_rfl) (Yl.move rfl) rfl ?_
    refine TA.quiet 16 rfl (by kernel_rfl) (Cll.func (xs := [_, _]) (vs := [_, _]) Tryz.func12 rfl (by kernel_rfl) ⟨rfl, rfl, trivial⟩) rfl (Quiet.none (tarField_q _ 167 (by decide))) ?_
    refine TA.one 2 (by kernel_rfl) ?_
    refine Up.eff rfl rfl (Eff.lits1 [_] (vs := bV [e.flag]) Tryz.underlying40 sz5 zr5 rfl ⟨rfl, trivial⟩ rfl rfl rfl) rfl (fun _ => .inr (fun _ h => h.sub (by repeat (first | exact List.Sublist.refl _ | refine List.Sublist.cons_cons _ ?_ | refine List.Sublist.cons _ ?_)))) fun b72 => ?_
    refine TA.one 3 (by kernel_rfl) ?_
    refine Up.val rfl rfl (Yl.strB (l := [e.flag]) (m := [e.flag]) Tryz.underlying40 Tryz.underlying5 Tryz.underlying9 rfl (by repeat (first | exact Foc.head | apply Foc.tail)) rfl (Nat.le_refl 1)) rfl (.inr (fun _ h => h.sub (by repeat (first | exact List.Sublist.refl _ | refine List.Sublist.cons_cons _ ?_ | refine List.Sublist.cons _ ?_)))) ?_
    refine TA.pure 7 rfl (by kernel_rfl) (Yl.addS rfl rfl (by simp only [List.length_append, padN_length, octal_length, List.length_cons, List.length_nil]; omega)) rfl ?_
    refine TA.pure 8 rfl (by kernel_rfl) (Yl.addS rfl rfl (by simp only [List.length_append, padN_length, octal_length, List.length_cons, List.length_nil]; omega)) rfl ?_
    refine TA.pure 10 rfl (by kernel_rfl) (Yl.addS rfl rfl (by simp only [List.length_append, padN_length, octal_length, List.length_cons, List.length_nil]; omega)) rfl ?_
    refine TA.pure 12 rfl (by kernel_rfl) (Yl.addS rfl rfl (by simp only [List.length_append, padN_length, octal_length, List.length_cons, List.length_nil]; omega)) rfl ?_
    refine TA.pure 14 rfl (by kernel_rfl) (Yl.addS rfl rfl (by simp only [List.length_append, padN_length, octal_length, List.length_cons, List.length_nil]; omega)) rfl ?_
    refine TA.pure 17 rfl (by kernel_rfl) (Yl.addS rfl rfl (by simp only [List.length_append, padN_length, octal_length, List.length_cons, List.length_nil]; omega)) rfl ?_
    refine TA.pure 18 rfl (by kernel_rfl) (Yl.assign rfl) rfl ?_
    refine TA.next (by kernel_rfl) ?_
    refine TC.seq ?_
    refine TC.region ?_
    refine TL.val (Yl.assign rfl) rfl ?_
    refine TL.next ?_
    refine TC.seq ?_
    refine TC.seq ?_
    refine TC.region ?_
    refine TL.val (Yl.move rfl) rfl ?_
    refine TL.val (Yl.move rfl) rfl ?_
    refine TL.val (Yl.addS (a := tarA e) (b := tarZ e) rfl rfl (by rw [tarA_length, tarZ_length]; omega)) rfl ?_
    refine TL.eff (Eff.bytes Tryz.underlying9 Tryz.underlying40 Tryz.underlying5 rfl) rfl fun q => ?_
    rw [hz504]
    refine TL.val (Yl.lenL Tryz.underlying40 rfl) rfl ?_
    refine TL.val (Yl.move rfl) rfl ?_
    refine TL.next ?_
    refine TC.block ?_
    refine TC.loopI (σ := Nat) (fun k => [(6, vS (tarA e)), (7, vS (tarZ e)), (8, .int .i64 (256 + (sumB ((tarA e ++ tarZ e).take k) : Int))), (91, sl q.1 0 504 (504 + q.2)), (92, .int .i64 504), (93, .int .i64 (k : Int))]) (fun k => (q.1, .cells ⟨bV (tarA e ++ tarZ e) ++ List.replicate q.2 (.int .u8 0)⟩ 5 (504 + q.2, 504 + q.2 + 1)) :: (b1, oC e.v 35) :: Fr) (fun k => k ≤ 504) (fun k => 504 - k) 0 ⟨rfl, rfl, rfl, rfl, rfl, rfl, trivial⟩ (fun _ h => h.sub (by repeat (first | exact List.Sublist.refl _ | refine List.Sublist.cons_cons _ ?_ | refine List.Sublist.cons _ ?_))) (Nat.zero_le _) (fun k hk => ?_)
    refine TC.seq ?_
    
    refine TC.region ?_
    refine TL.val (Yl.lss rfl rfl rfl) rfl ?_
    refine TL.next ?_
    refine TC.seq ?_
    refine TC.cond rfl (fun hc94 => ?_) (fun hc94 => ?_)
    · replace hc94 := of_decide_eq_true hc94
      refine TC.skip_next ?_
      refine TC.seq ?_
      refine TC.block ?_
      refine TC.seq ?_
      obtain ⟨c, hc⟩ : ∃ c, (tarA e ++ tarZ e)[k]? = some c := ⟨(tarA e ++ tarZ e)[k]'(by omega), List.getElem?_eq_getElem (by omega)⟩
      have hsk := sumB_le ((tarA e ++ tarZ e).take k)
      have hcl := c.toNat_lt
      rw [List.length_take] at hsk
      refine TC.region ?_
      refine TL.val (Yl.idxAddrS (j := k) (o := k) Tryz.underlying40 sz5 rfl rfl rfl (by omega) (by omega)) rfl ?_
      refine TL.val (Yl.load1 (off := k) Tryz.underlying5 rfl rfl (by repeat (first | exact Foc.head | apply Foc.tail)) ((List.getElem?_append_left (by rw [bV_length]; omega)).trans (bV_get hc))) rfl ?_
      refine TL.val (Yl.assign rfl) rfl ?_
      refine TL.next ?_
      refine TC.region ?_
      refine TL.val (Yl.move rfl) rfl ?_
      refine TL.val (Yl.move rfl) rfl ?_
      refine TL.val (Yl.conv Tryz.underlying5 Tryz.underlying3 rfl (wI_u8 _)) rfl ?_
      refine TL.val (Yl.add rfl rfl (wI (by omega))) rfl ?_
      refine TL.val (Yl.assign rfl) rfl ?_
      refine TL.next ?_
      refine TC.region ?_
      refine TL.val (Yl.add rfl rfl (wI (by omega))) rfl ?_
      refine TL.val (Yl.move rfl) rfl ?_
      exact TL.done (Inv.again (k + 1) (by omega) (by omega) ⟨rfl, rfl, (by rw [sumB_snoc hc, Int.natCast_add, ← Int.add_assoc]; rfl), rfl, rfl, rfl, trivial⟩ (fun _ h => h))
    · replace hc94 := of_decide_eq_false hc94
      refine TC.exit_next rfl ?_
      refine TC.seq ?_
      obtain rfl : k = 504 := by omega
      rw [← hz504, List.take_length]
      have hsk := sumB_le (tarA e ++ tarZ e)
      rw [hz504] at hsk
      refine TC.region ?_
      refine TL.val (Yl.move rfl) rfl ?_
      refine TL.val (Yl.move rfl) rfl ?_
      refine TL.quiet (Cll.func (xs := [_, _]) (vs := [_, _]) Tryz.func21 rfl (by kernel_rfl) ⟨rfl, rfl, trivial⟩) rfl (Quiet.none (tarOctal_q (tarSum e) 6 (by decide) (by unfold tarSum; omega))) ?_
      refine TL.val (Yl.addS rfl rfl (by rw [tarA_length, octal_length]; omega)) rfl ?_
      refine TL.val (Yl.addS rfl rfl (by rw [List.length_append, tarA_length, octal_length]; simp only [List.length_cons, List.length_nil]; omega)) rfl ?_
      refine TL.val (Yl.move rfl) rfl ?_
      refine TL.val (Yl.addS rfl rfl (by rw [List.length_append, List.length_append, tarA_length, octal_length, tarZ_length]; simp only [List.length_cons, List.length_nil]; omega)) rfl ?_
      refine TL.val (Yl.assign rfl) rfl ?_
      refine TL.next ?_
      exact TC.back1 () rfl rfl (fun _ h => h.sub (by repeat (first | exact List.Sublist.refl _ | refine List.Sublist.cons_cons _ ?_ | refine List.Sublist.cons _ ?_)))
  · refine TC.region ?_
    refine TL.val (Yl.move rfl) rfl ?_
    refine TL.val (Yl.gtr rfl rfl (decide_eq_false (by omega))) rfl ?_
    refine TL.val (Yl.move rfl) rfl ?_
    refine TL.no rfl rfl rfl rfl rfl ?_
    refine TL.no rfl rfl rfl rfl rfl ?_
    refine TL.no rfl rfl rfl rfl rfl ?_
    refine TL.no rfl rfl rfl rfl rfl ?_
    refine TL.val (Yl.pickF rfl rfl) rfl ?_
    refine TL.next ?_
    refine TC.no rfl ?_
    refine TC.exit_next rfl ?_
    refine TC.seq ?_
    refine TC.draws [] _ mixed (by kernel_rfl) rfl (fun _ h => h) ?_
    refine TA.pure 0 rfl (by kernel_rfl) (Yl.move rfl) rfl ?_
    refine TA.quiet 1 rfl (by kernel_rfl) (Cll.func (xs := [_, _]) (vs := [_, _]) Tryz.func12 rfl (by kernel_rfl) ⟨rfl, rfl, trivial⟩) rfl (Quiet.none (tarField_q _ 100 (by decide))) ?_
    refine TA.pure 2 rfl (by kernel_rfl) (Yl.fieldAddr (k := 3) (m := 4) (o := 4) Tryz.underlying35 rfl sz3 rfl rfl) rfl ?_
    refine TA.load 3 rfl (by kernel_rfl) (Yl.load1 Tryz.underlying3 rfl rfl (by repeat (first | exact Foc.head | apply Foc.tail)) rfl) rfl ?_
    refine TA.quiet 4 rfl (by kernel_rfl) (Cll.func (xs := [_, _]) (vs := [_, _]) Tryz.func21 rfl (by kernel_rfl) ⟨rfl, rfl, trivial⟩) rfl (Quiet.none (tarOctal_q e.mode 7 (by decide) (by omega))) ?_
    refine TA.pure 5 rfl (by kernel_rfl) (Yl.addS rfl rfl (by simp only [List.length_append, padN_length, octal_length, List.length_cons, List.length_nil]; omega)) rfl ?_
    refine TA.quiet 6 rfl (by kernel_rfl) (Cll.func (xs := [_, _]) (vs := [_, _]) Tryz.func21 rfl (by kernel_rfl) ⟨rfl, rfl, trivial⟩) rfl (Quiet.none (tarOctal_q 0 7 (by decide) (by omega))) ?_
    refine TA.pure 7 rfl (by kernel_rfl) (Yl.addS rfl rfl (by simp only [List.length_append, padN_length, octal_length, List.length_cons, List.length_nil]; omega)) rfl ?_
    refine TA.quiet 8 rfl (by kernel_rfl) (Cll.func (xs := [_, _]) (vs := [_, _]) Tryz.func21 rfl (by kernel_rfl) ⟨rfl, rfl, trivial⟩) rfl (Quiet.none (tarOctal_q 0 7 (by decide) (by omega))) ?_
    refine TA.pure 9 rfl (by kernel_rfl) (Yl.addS rfl rfl (by simp only [List.length_append, padN_length, octal_length, List.length_cons, List.length_nil]; omega)) rfl ?_
    refine TA.pure 10 rfl (by kernel_rfl) (Yl.fieldAddr (k := 9) (m := 2) (o := 2) Tryz.underlying35 rfl sz9 rfl rfl) rfl ?_
    refine TA.load 11 rfl (by kernel_rfl) (Yl.load1 Tryz.underlying9 rfl rfl (by repeat (first | exact Foc.head | apply Foc.tail)) rfl) rfl ?_
    refine TA.pure 12 rfl (by kernel_rfl) (Yl.lenS Tryz.underlying9 rfl) rfl ?_
    refine TA.quiet 13 rfl (by kernel_rfl) (Cll.func (xs := [_, _]) (vs := [_, _]) Tryz.func21 rfl (by kernel_rfl) ⟨rfl, rfl, trivial⟩) rfl (Quiet.none (tarOctal_q e.data.length 11 (by decide) (by omega))) ?_
    refine TA.pure 14 rfl (by kernel_rfl) (Yl.addS rfl rfl (by simp only [List.length_append, padN_length, octal_length, List.length_cons, List.length_nil]; omega)) rfl ?_
    refine TA.pure 15 rfl (by kernel_rfl) (Yl.fieldAddr (k := 3) (m := 5) (o := 5) Tryz.underlying35 rfl sz3 rfl rfl) rfl ?_
    refine TA.load 16 rfl (by kernel_rfl) (Yl.load1 Tryz.underlying3 rfl rfl (by repeat (first | exact Foc.head | apply Foc.tail)) rfl) rfl ?_
    refine TA.quiet 17 rfl (by kernel_rfl) (Cll.func (xs := [_, _]) (vs := [_, _]) Tryz.func21 rfl (by kernel_rfl) ⟨rfl, rfl, trivial⟩) rfl (Quiet.none (tarOctal_q 0 11 (by decide) (by omega))) ?_
    refine TA.pure 18 rfl (by kernel_rfl) (Yl.addS rfl rfl (by simp only [List.length_append, padN_length, octal_length, List.length_cons, List.length_nil]; omega)) rfl ?_
    refine TA.pure 19 rfl (by kernel_rfl) (Yl.assign rfl) rfl ?_
    refine TA.next (by kernel_rfl) ?_
    refine TC.seq ?_
    refine TC.draws [] _ mixed (by kernel_rfl) rfl (fun _ h => h) ?_
    refine TA.pure 0 rfl (by kernel_rfl) (Yl.fieldAddr (k := 5) (m := 3) (o := 3) Tryz.underlying35 rfl sz5 rfl rfl) rfl ?_
    refine TA.load 1 rfl (by kernel_rfl) (Yl.load1 Tryz.underlying5 rfl rfl (by repeat (first | exact Foc.head | apply Foc.tail)) rfl) rfl ?_
    refine TA.pure 4 rfl (by kernel_rfl) (Yl.fieldAddr (k := 9) (m := 1) (o := 1) Tryz.underlying35 rfl sz9 rfl rfl) rfl ?_
    refine TA.load 5 rfl (by kernel_rfl) (Yl.load1 Tryz.underlying9 rfl rfl (by repeat (first | exact Foc.head | apply Foc.tail)) rfl) rfl ?_
    refine TA.quiet 6 rfl (by kernel_rfl) (Cll.func (xs := [_, _]) (vs := [_, _]) Tryz.func12 rfl (by kernel_rfl) ⟨rfl, rfl, trivial⟩) rfl (Quiet.none (tarField_q _ 100 (by decide))) ?_
    refine TA.quiet 9 rfl (by kernel_rfl) (Cll.func (xs := [_, _]) (vs := [_, _]) Tryz.func12 rfl (by kernel_rfl) ⟨rfl, rfl, trivial⟩) rfl (Quiet.none (tarField_q _ 64 (by decide))) ?_
    refine TA.quiet 11 rfl (by kernel_rfl) (Cll.func (xs := [_, _]) (vs := [_, _]) Tryz.func21 rfl (by kernel_rfl) ⟨rfl, rfl, trivial⟩) rfl (Quiet.none (tarOctal_q 0 7 (by decide) (by omega))) ?_
    refine TA.quiet 13 rfl (by kernel_rfl) (Cll.func (xs := [_, _]) (vs := [_, _]) Tryz.func21 rfl (by kernel_rfl) ⟨rfl, rfl, trivial⟩) rfl (Quiet.none (tarOctal_q 0 7 (by decide) (by omega))) ?_
    refine TA.pure 15 rfl (by kernel_rfl) (Yl.move rfl) rfl ?_
    refine TA.quiet 16 rfl (by kernel_rfl) (Cll.func (xs := [_, _]) (vs := [_, _]) Tryz.func12 rfl (by kernel_rfl) ⟨rfl, rfl, trivial⟩) rfl (Quiet.none (tarField_q _ 167 (by decide))) ?_
    refine TA.one 2 (by kernel_rfl) ?_
    refine Up.eff rfl rfl (Eff.lits1 [_] (vs := bV [e.flag]) Tryz.underlying40 sz5 zr5 rfl ⟨rfl, trivial⟩ rfl rfl rfl) rfl (fun _ => .inr (fun _ h => h.sub (by repeat (first | exact List.Sublist.refl _ | refine List.Sublist.cons_cons _ ?_ | refine List.Sublist.cons _ ?_)))) fun b72 => ?_
    refine TA.one 3 (by kernel_rfl) ?_
    refine Up.val rfl rfl (Yl.strB (l := [e.flag]) (m := [e.flag]) Tryz.underlying40 Tryz.underlying5 Tryz.underlying9 rfl (by repeat (first | exact Foc.head | apply Foc.tail)) rfl (Nat.le_refl 1)) rfl (.inr (fun _ h => h.sub (by repeat (first | exact List.Sublist.refl _ | refine List.Sublist.cons_cons _ ?_ | refine List.Sublist.cons _ ?_)))) ?_
    refine TA.pure 7 rfl (by kernel_rfl) (Yl.addS rfl rfl (by simp only [List.length_append, padN_length, octal_length, List.length_cons, List.length_nil]; omega)) rfl ?_
    refine TA.pure 8 rfl (by kernel_rfl) (Yl.addS rfl rfl (by simp only [List.length_append, padN_length, octal_length, List.length_cons, List.length_nil]; omega)) rfl ?_
    refine TA.pure 10 rfl (by kernel_rfl) (Yl.addS rfl rfl (by simp only [List.length_append, padN_length, octal_length, List.length_cons, List.length_nil]; omega)) rfl ?_
    refine TA.pure 12 rfl (by kernel_rfl) (Yl.addS rfl rfl (by simp only [List.length_append, padN_length, octal_length, List.length_cons, List.length_nil]; omega)) rfl ?_
    refine TA.pure 14 rfl (by kernel_rfl) (Yl.addS rfl rfl (by simp only [List.length_append, padN_length, octal_length, List.length_cons, List.length_nil]; omega)) rfl ?_
    refine TA.pure 17 rfl (by kernel_rfl) (Yl.addS rfl rfl (by simp only [List.length_append, padN_length, octal_length, List.length_cons, List.length_nil]; omega)) rfl ?_
    refine TA.pure 18 rfl (by kernel_rfl) (Yl.assign rfl) rfl ?_
    refine TA.next (by kernel_rfl) ?_
    refine TC.seq ?_
    refine TC.region ?_
    refine TL.val (Yl.assign rfl) rfl ?_
    refine TL.next ?_
    refine TC.seq ?_
    refine TC.seq ?_
    refine TC.region ?_
    refine TL.val (Yl.move rfl) rfl ?_
    refine TL.val (Yl.move rfl) rfl ?_
    refine TL.val (Yl.addS (a := tarA e) (b := tarZ e) rfl rfl (by rw [tarA_length, tarZ_length]; omega)) rfl ?_
    refine TL.eff (Eff.bytes Tryz.underlying9 Tryz.underlying40 Tryz.underlying5 rfl) rfl fun q => ?_
    rw [hz504]
    refine TL.val (Yl.lenL Tryz.underlying40 rfl) rfl ?_
    refine TL.val (Yl.move rfl) rfl ?_
    refine TL.next ?_
    refine TC.block ?_
    refine TC.loopI (σ := Nat) (fun k => [(6, vS (tarA e)), (7, vS (tarZ e)), (8, .int .i64 (256 + (sumB ((tarA e ++ tarZ e).take k) : Int))), (91, sl q.1 0 504 (504 + q.2)), (92, .int .i64 504), (93, .int .i64 (k : Int))]) (fun k => (q.1, .cells ⟨bV (tarA e ++ tarZ e) ++ List.replicate q.2 (.int .u8 0)⟩ 5 (504 + q.2, 504 + q.2 + 1)) :: (b1, oC e.v 35) :: Fr) (fun k => k ≤ 504) (fun k => 504 - k) 0 ⟨rfl, rfl, rfl, rfl, rfl, rfl, trivial⟩ (fun _ h => h.sub (by repeat (first | exact List.Sublist.refl _ | refine List.Sublist.cons_cons _ ?_ | refine List.Sublist.cons _ ?_))) (Nat.zero_le _) (fun k hk => ?_)
    refine TC.seq ?_
    
    refine TC.region ?_
    refine TL.val (Yl.lss rfl rfl rfl) rfl ?_
    refine TL.next ?_
    refine TC.seq ?_
    refine TC.cond rfl (fun hc94 => ?_) (fun hc94 => ?_)
    · replace hc94 := of_decide_eq_true hc94
      refine TC.skip_next ?_
      refine TC.seq ?_
      refine TC.block ?_
      refine TC.seq ?_
      obtain ⟨c, hc⟩ : ∃ c, (tarA e ++ tarZ e)[k]? = some c := ⟨(tarA e ++ tarZ e)[k]'(by omega), List.getElem?_eq_getElem (by omega)⟩
      have hsk := sumB_le ((tarA e ++ tarZ e).take k)
      have hcl := c.toNat_lt
      rw [List.length_take] at hsk
      refine TC.region ?_
      refine TL.val (Yl.idxAddrS (j := k) (o := k) Tryz.underlying40 sz5 rfl rfl rfl (by omega) (by omega)) rfl ?_
      refine TL.val (Yl.load1 (off := k) Tryz.underlying5 rfl rfl (by repeat (first | exact Foc.head | apply Foc.tail)) ((List.getElem?_append_left (by rw [bV_length]; omega)).trans (bV_get hc))) rfl ?_
      refine TL.val (Yl.assign rfl) rfl ?_
      refine TL.next ?_
      refine TC.region ?_
      refine TL.val (Yl.move rfl) rfl ?_
      refine TL.val (Yl.move rfl) rfl ?_
      refine TL.val (Yl.conv Tryz.underlying5 Tryz.underlying3 rfl (wI_u8 _)) rfl ?_
      refine TL.val (Yl.add rfl rfl (wI (by omega))) rfl ?_
      refine TL.val (Yl.assign rfl) rfl ?_
      refine TL.next ?_
      refine TC.region ?_
      refine TL.val (Yl.add rfl rfl (wI (by omega))) rfl ?_
      refine TL.val (Yl.move rfl) rfl ?_
      exact TL.done (Inv.again (k + 1) (by omega) (by omega) ⟨rfl, rfl, (by rw [sumB_snoc hc, Int.natCast_add, ← Int.add_assoc]; rfl), rfl, rfl, rfl, trivial⟩ (fun _ h => h))
    · replace hc94 := of_decide_eq_false hc94
      refine TC.exit_next rfl ?_
      refine TC.seq ?_
      obtain rfl : k = 504 := by omega
      rw [← hz504, List.take_length]
      have hsk := sumB_le (tarA e ++ tarZ e)
      rw [hz504] at hsk
      refine TC.region ?_
      refine TL.val (Yl.move rfl) rfl ?_
      refine TL.val (Yl.move rfl) rfl ?_
      refine TL.quiet (Cll.func (xs := [_, _]) (vs := [_, _]) Tryz.func21 rfl (by kernel_rfl) ⟨rfl, rfl, trivial⟩) rfl (Quiet.none (tarOctal_q (tarSum e) 6 (by decide) (by unfold tarSum; omega))) ?_
      refine TL.val (Yl.addS rfl rfl (by rw [tarA_length, octal_length]; omega)) rfl ?_
      refine TL.val (Yl.addS rfl rfl (by rw [List.length_append, tarA_length, octal_length]; simp only [List.length_cons, List.length_nil]; omega)) rfl ?_
      refine TL.val (Yl.move rfl) rfl ?_
      refine TL.val (Yl.addS rfl rfl (by rw [List.length_append, List.length_append, tarA_length, octal_length, tarZ_length]; simp only [List.length_cons, List.length_nil]; omega)) rfl ?_
      refine TL.val (Yl.assign rfl) rfl ?_
      refine TL.next ?_
      exact TC.back1 () rfl rfl (fun _ h => h.sub (by repeat (first | exact List.Sublist.refl _ | refine List.Sublist.cons_cons _ ?_ | refine List.Sublist.cons _ ?_)))
end Go.Proofs.YtlhncphipfkkjaaGreatDoor

/- The entries of laws.tarEntries, as plain Lean; slices of entries that grow. -/
namespace Go.Proofs.YtlhncphipfkkjaaGreatDoor
open Go
variable {P : Program} {F : FL} {H : HL} {g : World} {d : Option Nat} {ty : TypeId} {pos : String} {aft : Array Edge} {gd : Option (Nat × Bool)}

theorem Own.mid {g w : World} {A H1 R : HL} (h : Own g w (A ++ (H1 ++ R))) : Own g w (H1 ++ (A ++ R)) := by
  refine h.perm ?_
  rw [← List.append_assoc, ← List.append_assoc]
  exact List.Perm.append_right _ List.perm_append_comm
theorem Yl.lenOf {t e te : TypeId} {x : Operand} {sz n : Nat} {xs : List Value} {v : Value} {H1 : HL} (h : SlOf te sz xs v H1) (hn : xs.length = n * sz) (hsz : 0 < sz) (hu : P.underlying t = some (.slice e)) (hx : ev F x = some v) :
    Yl P F H ⟨d, .call { callee := .builtin .len, args := #[x], argTypes := #[t] }, ty, pos, aft, gd⟩ (.int .i64 (n : Int)) := by
  rcases h with ⟨rfl, rfl, _⟩ | ⟨b, off, m, cap, cs, rfl, _, hmc, hc, rfl⟩
  · have : n = 0 := by
      rcases Nat.eq_zero_or_pos n with h | h
      · exact h
      · have := Nat.mul_pos h hsz; simp at hn; omega
    subst this
    exact Yl.lenL hu hx
  · rw [List.length_take, List.length_drop] at hn
    have h1 : m * sz ≤ cap * sz := Nat.mul_le_mul_right _ hmc
    have : m * sz = n * sz := by omega
    have : m = n := Nat.eq_of_mul_eq_mul_right hsz this
    subst this
    exact Yl.lenL hu hx
theorem Yl.slcNil {t : TypeId} {x y : Operand} {e sz : TypeId} {k : IntKind} {m : Int} (hu : P.underlying t = some (.slice e)) (hz : SizeIs P e sz) (hx : ev F x = some (.slice none 0 0)) (hy : ev F y = some (.int k m)) (hm : m = 0) :
    Yl P F H ⟨d, .slice t x none (some y) none, ty, pos, aft, gd⟩ (.slice none 0 0) := fun _ g w hf _ => by
  subst hm
  simp [execOp, hf.eval hx, hf.eval hy, Instr.sliceAt, Instr.slice, Instr.sliceBounds, Instr.sliceBound, asIntOf, run_underlying hu, run_sizeOf' hz]

def u16V (x : UInt16) : Value := .int .u16 (x.toNat : Int)
def namesL : List (List UInt8) := [[97], [98], [100], [100, 47, 97], [100, 47, 98], [100, 47, 101], [100, 47, 101, 47, 102], [108, 111, 110, 103, 32, 110, 97, 109, 101, 46, 116, 101, 120, 116], [100, 47, 46, 104, 105, 100, 100, 101, 110], [120, 47, 121, 47, 122]]
def nameOf (w : UInt16) : List UInt8 := namesL.getD (w.toNat % 10) []
theorem nameOf_get (w : UInt16) : (namesL.map vS)[w.toNat % 10]? = some (vS (nameOf w)) := by
  have h : w.toNat % 10 < namesL.length := Nat.mod_lt _ (by decide)
  rw [List.getElem?_map, List.getElem?_eq_getElem h, nameOf, List.getD_eq_getElem?_getD, List.getElem?_eq_getElem h]; rfl
theorem nameOf_length (w : UInt16) : (nameOf w).length ≤ 15 := by
  have h : w.toNat % 10 < 10 := Nat.mod_lt _ (by decide)
  unfold nameOf
  generalize w.toNat % 10 = k at h
  have : ∀ k, k < 10 → (namesL.getD k []).length ≤ 15 := by decide
  exact this k h
/-- a name, split behind the last '/' of its first k bytes -/
def splitAt (l : List UInt8) : Nat → List UInt8 × List UInt8
  | 0 => ([], l)
  | k + 1 => if byteAt l k = 47 then (l.take (k + 1), l.drop (k + 1)) else splitAt l k
theorem splitAt_yes {l : List UInt8} {k : Nat} (h : byteAt l k = 47) : splitAt l (k + 1) = (l.take (k + 1), l.drop (k + 1)) := if_pos h
theorem splitAt_no {l : List UInt8} {k : Nat} (h : ¬ byteAt l k = 47) : splitAt l (k + 1) = splitAt l k := if_neg h
theorem splitAt_app (l : List UInt8) (k : Nat) : (splitAt l k).1 ++ (splitAt l k).2 = l := by induction k with
  | zero => rfl
  | succ k ih => unfold splitAt; split <;> simp [ih]
def whB : List UInt8 := [46, 119, 104, 46]
def whName (l : List UInt8) : List UInt8 := (splitAt l l.length).1 ++ whB ++ (splitAt l l.length).2
theorem whName_length (l : List UInt8) : (whName l).length = l.length + 4 := by
  have := congrArg List.length (splitAt_app l l.length)
  simp only [List.length_append] at this
  simp only [whName, List.length_append, whB, List.length_cons, List.length_nil]; omega
def dataB : List UInt8 := [100, 97, 116, 97]
def dataOf (w : UInt16) : List UInt8 := List.replicate ((shr16 w 7).toNat % 20) 0 ++ dataB ++ [toU8 (97 + ((shr16 w 8).toNat : Int) % 26)]
def targetB : List UInt8 := [116, 97, 114, 103, 101, 116]
def entOf (w : UInt16) : TE :=
  if (shr16 w 4).toNat % 6 = 0 then ⟨nameOf w, [], [], 53, 493⟩
  else if (shr16 w 4).toNat % 6 = 1 then ⟨whName (nameOf w), [], [], 48, 420⟩
  else if (shr16 w 4).toNat % 6 = 2 then ⟨nameOf w, targetB, [], 50, 511⟩
  else ⟨nameOf w, [], dataOf w, 48, 420⟩
def TE.ok (e : TE) : Prop := e.name.length ≤ 20 ∧ e.link.length ≤ 20 ∧ e.data.length ≤ 30 ∧ e.mode ≤ 511 ∧ (e.flag = 48 ∨ e.flag = 50 ∨ e.flag = 53)
theorem entOf_ok (w : UInt16) : (entOf w).ok := by
  have h1 := nameOf_length w
  have h2 := whName_length (nameOf w)
  have h3 : (dataOf w).length ≤ 30 := by
    have : (shr16 w 7).toNat % 20 < 20 := Nat.mod_lt _ (by decide)
    simp only [dataOf, dataB, List.length_append, List.length_replicate, List.length_cons, List.length_nil]; omega
  unfold entOf
  split
  · exact ⟨by show (nameOf w).length ≤ 20; omega, Nat.le_of_ble_eq_true rfl, Nat.le_of_ble_eq_true rfl, Nat.le_of_ble_eq_true rfl, .inr (.inr rfl)⟩
  split
  · exact ⟨by show (whName (nameOf w)).length ≤ 20; omega, Nat.le_of_ble_eq_true rfl, Nat.le_of_ble_eq_true rfl, Nat.le_of_ble_eq_true rfl, .inl rfl⟩
  split
  · exact ⟨by show (nameOf w).length ≤ 20; omega, Nat.le_of_ble_eq_true rfl, Nat.le_of_ble_eq_true rfl, Nat.le_of_ble_eq_true rfl, .inr (.inl rfl)⟩
  · exact ⟨by show (nameOf w).length ≤ 20; omega, Nat.le_of_ble_eq_true rfl, h3, Nat.le_of_ble_eq_true rfl, .inl rfl⟩
def dupN (es : List TE) (n : List UInt8) (k : Nat) : Bool := (es.take k).any fun x => decide (x.name = n)
theorem dupN_succ {es : List TE} {n : List UInt8} {k : Nat} {x : TE} (h : es[k]? = some x) : dupN es n (k + 1) = (dupN es n k || decide (x.name = n)) := by
  obtain ⟨hlt, rfl⟩ := List.getElem?_eq_some_iff.1 h
  unfold dupN
  rw [List.take_succ_eq_append_getElem hlt, List.any_append]; simp
def entStep (es : List TE) (w : UInt16) : List TE := if dupN es (entOf w).name es.length then es else es ++ [entOf w]
def entL (ws : List UInt16) : List TE := ws.foldl entStep []
theorem entL_snoc {ws : List UInt16} {k : Nat} {w : UInt16} (h : ws[k]? = some w) : entL (ws.take (k + 1)) = entStep (entL (ws.take k)) w := by
  obtain ⟨hlt, rfl⟩ := List.getElem?_eq_some_iff.1 h
  unfold entL
  rw [List.take_succ_eq_append_getElem hlt, List.foldl_append]; rfl
theorem entL_length (ws : List UInt16) : (entL ws).length ≤ ws.length := by
  suffices ∀ (ws : List UInt16) es, (ws.foldl entStep es).length ≤ es.length + ws.length by have := this ws []; rwa [List.length_nil, Nat.zero_add] at this
  intro ws
  induction ws with
  | nil => intro es; simp
  | cons w ws ih =>
    intro es
    have := ih (entStep es w)
    have h2 : (entStep es w).length ≤ es.length + 1 := by unfold entStep; split <;> simp
    simp only [List.foldl_cons, List.length_cons]; omega
theorem entL_ok (ws : List UInt16) : ∀ e ∈ entL ws, e.ok := by
  suffices ∀ (ws : List UInt16) es, (∀ e ∈ es, TE.ok e) → ∀ e ∈ ws.foldl entStep es, e.ok by exact this ws [] (by simp)
  intro ws
  induction ws with
  | nil => intro es h; exact h
  | cons w ws ih =>
    intro es h
    refine ih _ ?_
    unfold entStep
    split
    · exact h
    · intro e he
      rcases List.mem_append.1 he with he | he
      · exact h e he
      · rw [List.mem_singleton.1 he]; exact entOf_ok w
/-- the names have no '.wh.' twin: nothing more is needed of them -/
theorem flatT_append (a b : List TE) : flatT (a ++ b) = flatT a ++ flatT b := by simp [flatT]
theorem flatT_one (e : TE) : flatT [e] = e.v := by simp [flatT]
end Go.Proofs.YtlhncphipfkkjaaGreatDoor

namespace Go.Proofs.YtlhncphipfkkjaaGreatDoor
open Go
def mapL (L : List (List UInt8)) : List (List UInt8 × Value) := L.map fun t => (sumH t, vS t)
theorem mapL_yes {L : List (List UInt8)} {h : List UInt8} (hm : h ∈ L.map sumH) : ∃ y ∈ L, sumH y = h ∧ (mapL L).lookup h = some (vS y) := by
  induction L with
  | nil => simp at hm
  | cons a L ih =>
    by_cases e : h = sumH a
    · refine ⟨a, List.mem_cons_self, e.symm, ?_⟩
      have : (h == sumH a) = true := by simpa using e
      simp [mapL, List.lookup, this]
    · have : (h == sumH a) = false := by simpa using e
      obtain ⟨y, hy, h1, h2⟩ := ih (by simpa [e] using hm)
      refine ⟨y, List.mem_cons_of_mem _ hy, h1, ?_⟩
      simp only [mapL, List.map_cons, List.lookup, this]
      exact h2
theorem mapL_snoc {L : List (List UInt8)} {k : Nat} {x : List UInt8} (h : L[k]? = some x) : mapL (L.take (k + 1)) = mapL (L.take k) ++ [(sumH x, vS x)] := by
  obtain ⟨hlt, rfl⟩ := List.getElem?_eq_some_iff.1 h
  rw [List.take_succ_eq_append_getElem hlt, mapL, List.map_append]; rfl
theorem sums_snoc {L : List (List UInt8)} {k : Nat} {x : List UInt8} (h : L[k]? = some x) : (L.take (k + 1)).map sumH = (L.take k).map sumH ++ [sumH x] := by
  obtain ⟨hlt, rfl⟩ := List.getElem?_eq_some_iff.1 h
  rw [List.take_succ_eq_append_getElem hlt, List.map_append]; rfl
theorem apart_q (L : List (List UInt8)) (n : Nat) (hn : L.length = n) (hn2 : n ≤ 100) (hL : L.Nodup) (hl : ∀ x ∈ L, x.length ≤ 1125899906842624) (bb : Nat) : Quiet Tryz.prog 7 #[sl bb 0 n n] [(bb, oC (L.map vS) 9)] (.bool (decide ((L.map sumH).Nodup))) := by
  refine Quiet.of_gives fun g Fr => ?_
  refine Gives.enter Tryz.func7 rfl Tryz.ntmps7 rfl ?_
  refine TC.seq ?_
  refine TC.region ?_
  refine TL.val (Yl.assign rfl) rfl ?_
  refine TL.next ?_
  refine TC.seq ?_
  refine TC.region ?_
  refine TL.eff Eff.newMap rfl fun b9 => ?_
  refine TL.val (Yl.assign rfl) rfl ?_
  refine TL.next ?_
  refine TC.seq ?_
  refine TC.seq ?_
  refine TC.region ?_
  refine TL.val (Yl.move rfl) rfl ?_
  refine TL.val (Yl.lenL Tryz.underlying37 rfl) rfl ?_
  refine TL.val (Yl.move rfl) rfl ?_
  refine TL.next ?_
  refine TC.block ?_
  refine TC.loopI (σ := Nat) (fun k => [(2, .bool false), (3, .map (some b9)), (10, sl bb 0 n n), (11, .int .i64 (n : Int)), (12, .int .i64 (k : Int))]) (fun k => (b9, mapO (mapL (L.take k))) :: (bb, oC (L.map vS) 9) :: Fr) (fun k => k ≤ n ∧ ((L.take k).map sumH).Nodup) (fun k => n - k) 0 ⟨rfl, rfl, rfl, rfl, rfl, trivial⟩ (fun _ h => h) ⟨Nat.zero_le _, List.nodup_nil⟩ (fun k hk => ?_)
  refine TC.seq ?_
  refine TC.region ?_
  refine TL.val (Yl.lss rfl rfl rfl) rfl ?_
  refine TL.next ?_
  refine TC.seq ?_
  refine TC.cond rfl (fun hc13 => ?_) (fun hc13 => ?_)
  · replace hc13 := of_decide_eq_true hc13
    refine TC.skip_next ?_
    refine TC.seq ?_
    refine TC.block ?_
    refine TC.seq ?_
    obtain ⟨x, hx⟩ : ∃ x, L[k]? = some x := ⟨L[k]'(by omega), List.getElem?_eq_getElem (by omega)⟩
    have hxl := hl x (List.mem_of_getElem? hx)
    refine TC.region ?_
    refine TL.val (Yl.idxAddrS (j := k) (o := k) Tryz.underlying37 sz9 rfl rfl rfl (by omega) (by omega)) rfl ?_
    refine TL.val (Yl.load1 Tryz.underlying9 rfl rfl (by repeat (first | exact Foc.head | apply Foc.tail)) (by rw [List.getElem?_map, hx]; rfl)) rfl ?_
    refine TL.val (Yl.assign rfl) rfl ?_
    refine TL.next ?_
    refine TC.seq ?_
    refine TC.region ?_
    refine TL.val (Yl.move rfl) rfl ?_
    refine TL.quiet (Cll.func (xs := [_]) (vs := [_]) Tryz.func8 rfl (by kernel_rfl) ⟨rfl, trivial⟩) rfl (Quiet.none (sum_q x hxl)) ?_
    refine TL.val (Yl.field (k := 9) (m := 1) Tryz.underlying29 rfl Tryz.underlying9 rfl rfl rfl) rfl ?_
    refine TL.val (Yl.assign rfl) rfl ?_
    refine TL.next ?_
    refine TC.seq ?_
    refine TC.seq ?_
    by_cases hin : sumH x ∈ (L.take k).map sumH
    · obtain ⟨y, hy, hyx, hlk⟩ := mapL_yes hin
      have hne : y ≠ x := fun e => by
        subst e
        obtain ⟨i, hi, he⟩ := List.getElem_of_mem hy
        rw [List.length_take] at hi
        rw [List.getElem_take] at he
        obtain ⟨hkl, hke⟩ := List.getElem?_eq_some_iff.1 hx
        exact (List.pairwise_iff_getElem.1 hL) i k (by omega) hkl (by omega) (he.trans hke.symm)
      refine TC.region ?_
      refine TL.val (Yl.move rfl) rfl ?_
      refine TL.val (Yl.move rfl) rfl ?_
      refine TL.val (Yl.lookYes Tryz.underlying44 Tryz.underlying9 rfl rfl (by repeat (first | exact Foc.head | apply Foc.tail)) hlk) rfl ?_
      refine TL.val (Yl.move rfl) rfl ?_
      refine TL.val (Yl.extract rfl rfl) rfl ?_
      refine TL.val (Yl.extract rfl rfl) rfl ?_
      refine TL.val (Yl.assign rfl) rfl ?_
      refine TL.val (Yl.assign rfl) rfl ?_
      refine TL.next ?_
      refine TC.seq ?_
      refine TC.region ?_
      refine TL.val (Yl.move rfl) rfl ?_
      refine TL.val (Yl.move rfl) rfl ?_
      refine TL.yes rfl rfl rfl ?_
      refine TL.val (Yl.move rfl) rfl ?_
      refine TL.yes rfl rfl rfl ?_
      refine TL.val (Yl.move rfl) rfl ?_
      refine TL.yes rfl rfl rfl ?_
      refine TL.val (Yl.neqS rfl rfl (decide_eq_true hne)) rfl ?_
      refine TL.val (Yl.pickT rfl rfl) rfl ?_
      refine TL.next ?_
      refine TC.yes rfl ?_
      refine TC.seq ?_
      refine TC.region ?_
      refine TL.val (Yl.assign rfl) rfl ?_
      refine TL.next ?_
      exact TC.back1 () rfl (congrArg (fun z => some (Value.bool z)) (Eq.symm <| decide_eq_false (fun hh : (L.map sumH).Nodup => by
        rw [← List.take_append_drop (k + 1) L, List.map_append, sums_snoc hx] at hh
        exact (List.nodup_append.1 (List.nodup_append.1 hh).1).2.2 _ hin _ (List.mem_singleton.2 rfl) rfl))) (fun _ h => h.sub (by repeat (first | exact List.Sublist.refl _ | refine List.Sublist.cons_cons _ ?_ | refine List.Sublist.cons _ ?_)))
    · have hnm : ∀ p ∈ mapL (L.take k), p.1 ≠ sumH x := fun p hp e => by
        obtain ⟨t, ht, rfl⟩ := List.mem_map.1 hp
        exact hin (e ▸ List.mem_map_of_mem ht)
      have hnd : ((L.take k).map sumH ++ [sumH x]).Nodup := List.nodup_append.2 ⟨hk.2, by simp, fun a ha b hb e => hin (by rw [List.mem_singleton.1 hb] at e; exact e ▸ ha)⟩
      refine TC.region ?_
      refine TL.val (Yl.move rfl) rfl ?_
      refine TL.val (Yl.move rfl) rfl ?_
      refine TL.val (Yl.lookNo Tryz.underlying44 Tryz.underlying9 zr9 rfl rfl (by repeat (first | exact Foc.head | apply Foc.tail)) hnm) rfl ?_
      refine TL.val (Yl.move rfl) rfl ?_
      refine TL.val (Yl.extract rfl rfl) rfl ?_
      refine TL.val (Yl.extract rfl rfl) rfl ?_
      refine TL.val (Yl.assign rfl) rfl ?_
      refine TL.val (Yl.assign rfl) rfl ?_
      refine TL.next ?_
      refine TC.seq ?_
      refine TC.region ?_
      refine TL.val (Yl.move rfl) rfl ?_
      refine TL.val (Yl.move rfl) rfl ?_
      refine TL.no rfl rfl rfl rfl rfl ?_
      refine TL.no rfl rfl rfl rfl rfl ?_
      refine TL.no rfl rfl rfl rfl rfl ?_
      refine TL.val (Yl.pickF rfl rfl) rfl ?_
      refine TL.next ?_
      refine TC.no rfl ?_
      refine TC.skip_next ?_
      refine TC.region ?_
      refine TL.val (Yl.move rfl) rfl ?_
      refine TL.val (Yl.move rfl) rfl ?_
      refine TL.val (Yl.move rfl) rfl ?_
      refine TL.skp (Skp.mapNew Tryz.underlying44 Tryz.underlying9 rfl rfl rfl (by repeat (first | exact Foc.head | apply Foc.tail)) hnm) ?_
      refine TL.next ?_
      refine TC.region ?_
      refine TL.val (Yl.add rfl rfl (wI (by omega))) rfl ?_
      refine TL.val (Yl.move rfl) rfl ?_
      exact TL.done (Inv.again (k + 1) ⟨by show k + 1 ≤ n; omega, by rw [sums_snoc hx]; exact hnd⟩ (by show n - (k + 1) < n - k; omega) ⟨rfl, rfl, rfl, rfl, rfl, trivial⟩ (fun _ h => by rw [mapL_snoc hx]; exact h))
  · replace hc13 := of_decide_eq_false hc13
    refine TC.exit_next rfl ?_
    refine TC.seq ?_
    refine TC.region ?_
    refine TL.val (Yl.assign rfl) rfl ?_
    refine TL.next ?_
    obtain rfl : k = n := by omega
    exact TC.back1 () rfl (congrArg (fun z => some (Value.bool z)) (Eq.symm <| decide_eq_true (by have := hk.2; rwa [← hn, List.take_length] at this))) (fun _ h => h.sub (by repeat (first | exact List.Sublist.refl _ | refine List.Sublist.cons_cons _ ?_ | refine List.Sublist.cons _ ?_)))
theorem tarWrite_q1 (es : List TE) (b off cap : Nat) (cs : List Value) (hl : es.length ≤ 100) (hE : ∀ e ∈ es, e.name.length ≤ 100 ∧ e.data.length ≤ 10000 ∧ e.mode ≤ 1000000) (hcap : es.length ≤ cap) (hoff : off + cap * 6 ≤ cs.length) (hcs : (cs.drop off).take (es.length * 6) = flatT es) : Quiet Tryz.prog 4 #[sl b off es.length cap] [(b, oC cs 35)] (vS (tarT es)) := by
  refine Quiet.of_gives fun g Fr => ?_
  refine Gives.enter Tryz.func4 rfl Tryz.ntmps4 rfl ?_
  refine TC.seq ?_
  refine TC.region ?_
  refine TL.val (Yl.assign rfl) rfl ?_
  refine TL.next ?_
  refine TC.seq ?_
  refine TC.region ?_
  refine TL.val (Yl.assign rfl) rfl ?_
  refine TL.next ?_
  refine TC.seq ?_
  refine TC.seq ?_
  refine TC.region ?_
  refine TL.val (Yl.move rfl) rfl ?_
  refine TL.val (Yl.lenL Tryz.underlying24 rfl) rfl ?_
  refine TL.val (Yl.move rfl) rfl ?_
  refine TL.next ?_
  refine TC.block ?_
  refine TC.loopI (σ := Nat) (fun k => [(3, vS (tarN es k)), (6, sl b off es.length cap), (7, .int .i64 (es.length : Int)), (8, .int .i64 (k : Int))]) (fun k => (b, oC cs 35) :: Fr) (fun k => k ≤ es.length) (fun k => es.length - k) 0 ⟨rfl, rfl, rfl, rfl, trivial⟩ (fun _ h => h) (Nat.zero_le _) (fun k hk => ?_)
  refine TC.seq ?_
  refine TC.region ?_
  refine TL.val (Yl.lss rfl rfl rfl) rfl ?_
  refine TL.next ?_
  refine TC.seq ?_
  refine TC.cond rfl (fun hc9 => ?_) (fun hc9 => ?_)
  · replace hc9 := of_decide_eq_true hc9
    refine TC.skip_next ?_
    refine TC.seq ?_
    refine TC.block ?_
    refine TC.seq ?_
    obtain ⟨e, hx⟩ : ∃ e, es[k]? = some e := ⟨es[k]'(by omega), List.getElem?_eq_getElem (by omega)⟩
    have hem := List.mem_of_getElem? hx
    have he1 := (hE e hem).1
    have he2 : e.data.length ≤ 1000000 := Nat.le_trans (hE e hem).2.1 (by decide)
    have he3 := (hE e hem).2.2
    have hpd : padLen e.data.length < 512 := Nat.mod_lt _ (by decide)
    have hpd2 : padLen e.data.length = (512 - e.data.length % 512) % 512 := rfl
    have htn := tarN_length es k 10000 (fun e h => Nat.le_trans (hE e h).2.1 (by omega))
    have hth := tarHead_length e
    refine TC.region ?_
    refine TL.val (Yl.idxAddrS (j := k) (o := off + k * 6) Tryz.underlying24 sz35 rfl rfl rfl (by omega) rfl) rfl ?_
    refine TL.val (Yl.loadA (vs := e.v) Tryz.underlying35 rfl sz35 rfl (by repeat (first | exact Foc.head | apply Foc.tail)) (by
      have := flatT_get es k e hx
      rw [← hcs, List.drop_take, List.drop_drop, List.take_take] at this
      rw [Nat.mul_comm k 6]
      rw [Nat.min_eq_left (by omega)] at this
      exact this)) rfl ?_
    refine TL.eff (Eff.alloc zr35 rfl) rfl fun b5 => ?_
    refine TL.skp (Skp.storeA (vs := e.v) sz35 rfl rfl rfl (by repeat (first | exact Foc.head | apply Foc.tail)) (Nat.le_of_ble_eq_true rfl) rfl) ?_
    refine TL.next ?_
    refine TC.draws [] _ mixed (by kernel_rfl) rfl (fun _ h => h) ?_
    refine TA.pure 0 rfl (by kernel_rfl) (Yl.move rfl) rfl ?_
    refine TA.load 1 rfl (by kernel_rfl) (Yl.loadA (vs := e.v) Tryz.underlying35 rfl sz35 rfl (by repeat (first | exact Foc.head | apply Foc.tail)) rfl) rfl ?_
    refine TA.quiet 2 rfl (by kernel_rfl) (Cll.func (xs := [_]) (vs := [_]) Tryz.func11 rfl (by kernel_rfl) ⟨rfl, trivial⟩) rfl (Quiet.none (tarHead_q e he1 he2 he3)) ?_
    refine TA.pure 3 rfl (by kernel_rfl) (Yl.fieldAddr (k := 9) (m := 2) (o := 2) Tryz.underlying35 rfl sz9 rfl rfl) rfl ?_
    refine TA.load 4 rfl (by kernel_rfl) (Yl.load1 Tryz.underlying9 rfl rfl (by repeat (first | exact Foc.head | apply Foc.tail)) rfl) rfl ?_
    refine TA.pure 5 rfl (by kernel_rfl) (Yl.addS rfl rfl (by omega)) rfl ?_
    refine TA.pure 6 rfl (by kernel_rfl) (Yl.fieldAddr (k := 9) (m := 2) (o := 2) Tryz.underlying35 rfl sz9 rfl rfl) rfl ?_
    refine TA.load 7 rfl (by kernel_rfl) (Yl.load1 Tryz.underlying9 rfl rfl (by repeat (first | exact Foc.head | apply Foc.tail)) rfl) rfl ?_
    refine TA.pure 8 rfl (by kernel_rfl) (Yl.lenS Tryz.underlying9 rfl) rfl ?_
    refine TA.pure 9 rfl (by kernel_rfl) (Yl.rem rfl rfl (by omega) (by omega) rfl) rfl ?_
    refine TA.pure 10 rfl (by kernel_rfl) (Yl.sub rfl rfl (wI (by omega))) rfl ?_
    refine TA.pure 11 rfl (by kernel_rfl) (Yl.rem (r := ((padLen e.data.length : Nat) : Int)) rfl rfl (by omega) (by omega) (by rw [hpd2]; omega)) rfl ?_
    refine TA.quiet 12 rfl (by kernel_rfl) (Cll.func (xs := [_, _]) (vs := [_, _]) Tryz.func12 rfl (by kernel_rfl) ⟨rfl, rfl, trivial⟩) rfl (Quiet.none (tarField_q [] (padLen e.data.length) (by omega))) ?_
    refine TA.pure 13 rfl (by kernel_rfl) (Yl.addS rfl rfl (by rw [List.length_append, padN_length]; omega)) rfl ?_
    refine TA.pure 14 rfl (by kernel_rfl) (Yl.addS (b := tarOne e) rfl rfl (by rw [tarOne_length]; omega)) rfl ?_
    refine TA.pure 15 rfl (by kernel_rfl) (Yl.assign rfl) rfl ?_
    refine TA.next (by kernel_rfl) ?_
    refine TC.region ?_
    refine TL.val (Yl.add rfl rfl (wI (by omega))) rfl ?_
    refine TL.val (Yl.move rfl) rfl ?_
    exact TL.done (Inv.again (k + 1) (by omega) (by omega) ⟨(by rw [tarN_succ hx]; rfl), rfl, rfl, rfl, trivial⟩ (fun _ h => h.sub (by repeat (first | exact List.Sublist.refl _ | refine List.Sublist.cons_cons _ ?_ | refine List.Sublist.cons _ ?_))))
  · replace hc9 := of_decide_eq_false hc9
    refine TC.exit_next rfl ?_
    refine TC.seq ?_
    obtain rfl : k = es.length := by omega
    have htn := tarN_length es es.length 10000 (fun e h => Nat.le_trans (hE e h).2.1 (by omega))
    refine TC.region ?_
    refine TL.val (Yl.move rfl) rfl ?_
    refine TL.quiet (Cll.func (xs := [_, _]) (vs := [_, _]) Tryz.func12 rfl (by kernel_rfl) ⟨rfl, rfl, trivial⟩) rfl (Quiet.none (tarField_q [] 1024 (by decide))) ?_
    refine TL.val (Yl.addS rfl rfl (by rw [padN_length]; omega)) rfl ?_
    refine TL.val (Yl.assign rfl) rfl ?_
    refine TL.next ?_
    exact TC.back1 () rfl rfl (fun _ h => h.sub (by repeat (first | exact List.Sublist.refl _ | refine List.Sublist.cons_cons _ ?_ | refine List.Sublist.cons _ ?_)))
theorem tarWrite_q0 (es : List TE) (hes : es.length = 0) (hE : ∀ e ∈ es, e.name.length ≤ 100 ∧ e.data.length ≤ 10000 ∧ e.mode ≤ 1000000) : Quiet Tryz.prog 4 #[.slice none 0 0] [] (vS (tarT es)) := by
  refine Quiet.of_gives fun g Fr => ?_
  refine Gives.enter Tryz.func4 rfl Tryz.ntmps4 rfl ?_
  refine TC.seq ?_
  refine TC.region ?_
  refine TL.val (Yl.assign rfl) rfl ?_
  refine TL.next ?_
  refine TC.seq ?_
  refine TC.region ?_
  refine TL.val (Yl.assign rfl) rfl ?_
  refine TL.next ?_
  refine TC.seq ?_
  refine TC.seq ?_
  refine TC.region ?_
  refine TL.val (Yl.move rfl) rfl ?_
  refine TL.val (Yl.lenL Tryz.underlying24 rfl) rfl ?_
  refine TL.val (Yl.move rfl) rfl ?_
  refine TL.next ?_
  refine TC.block ?_
  refine TC.loopI (σ := Nat) (fun k => [(3, vS (tarN es k)), (6, .slice none 0 0), (7, .int .i64 (es.length : Int)), (8, .int .i64 (k : Int))]) (fun k => Fr) (fun k => k ≤ es.length) (fun k => es.length - k) 0 ⟨rfl, rfl, (congrArg (fun z => some (Value.int .i64 z)) (by omega)), rfl, trivial⟩ (fun _ h => h) (Nat.zero_le _) (fun k hk => ?_)
  refine TC.seq ?_
  refine TC.region ?_
  refine TL.val (Yl.lss rfl rfl (decide_eq_false (by omega))) rfl ?_
  refine TL.next ?_
  refine TC.seq ?_
  refine TC.no rfl ?_
  refine TC.exit_next rfl ?_
  refine TC.seq ?_
  obtain rfl : k = es.length := by omega
  have htn := tarN_length es es.length 10000 (fun e h => Nat.le_trans (hE e h).2.1 (by omega))
  refine TC.region ?_
  refine TL.val (Yl.move rfl) rfl ?_
  refine TL.quiet (Cll.func (xs := [_, _]) (vs := [_, _]) Tryz.func12 rfl (by kernel_rfl) ⟨rfl, rfl, trivial⟩) rfl (Quiet.none (tarField_q [] 1024 (by decide))) ?_
  refine TL.val (Yl.addS rfl rfl (by rw [padN_length]; omega)) rfl ?_
  refine TL.val (Yl.assign rfl) rfl ?_
  refine TL.next ?_
  exact TC.back1 () rfl rfl (fun _ h => h.sub (by repeat (first | exact List.Sublist.refl _ | refine List.Sublist.cons_cons _ ?_ | refine List.Sublist.cons _ ?_)))
theorem tarWrite_q (es : List TE) (v : Value) (H1 : HL) (hv : SlOf 35 6 (flatT es) v H1) (hl : es.length ≤ 100) (hE : ∀ e ∈ es, e.name.length ≤ 100 ∧ e.data.length ≤ 10000 ∧ e.mode ≤ 1000000) : Quiet Tryz.prog 4 #[v] H1 (vS (tarT es)) := by
  rcases hv with ⟨rfl, he, rfl⟩ | ⟨b, off, m, cap, cs, rfl, rfl, hmc, hc, hx⟩
  · have h1 := congrArg List.length he
    rw [flatT_length] at h1
    exact tarWrite_q0 es (by rw [List.length_nil] at h1; omega) hE
  · have h1 := congrArg List.length hx
    rw [flatT_length, List.length_take, List.length_drop] at h1
    have h2 : m * 6 ≤ cap * 6 := Nat.mul_le_mul_right _ hmc
    obtain rfl : m = es.length := by omega
    exact tarWrite_q1 es b off cap cs hl hE hmc hc hx
end Go.Proofs.YtlhncphipfkkjaaGreatDoor
