/- The contracts of the program's gzip reader and of the tee; conditions: the bytes are a gzip of stored blocks. -/
import Derived.Test.YtlhncphipfkkjaaGreatDoorW06
/- Stored blocks read back: the plain laws. -/
namespace Go.Proofs.YtlhncphipfkkjaaGreatDoor
open Go

theorem Own.inA {g w : World} {A L L' : HL} (hp : L.Perm L') (h : Own g w (A ++ L)) : Own g w (A ++ L') := h.perm (List.Perm.append_left A hp)
theorem layB_full {l a : List UInt8} (h : a.length = l.length) : layB l 0 a = a := by
  unfold layB; simp [h]
/-- the running sum -/
def crcN (l : List UInt8) : UInt32 := ~~~ crcL 4294967295 l
theorem crcL_app (x : UInt32) (a b : List UInt8) : crcL x (a ++ b) = crcL (crcL x a) b := by simp [crcL, List.foldl_append]
theorem crcN_app (a b : List UInt8) : ~~~ crcL (~~~ crcN a) b = crcN (a ++ b) := by
  unfold crcN; rw [crcL_app, UInt32.not_not]
/-- two bytes as a number -/
theorem or_bytes (a b : Nat) (ha : a < 256) : a ||| b * 256 = a + 256 * b := by
  have := Nat.shiftLeft_add_eq_or_of_lt (i := 8) ha b
  rw [Nat.shiftLeft_eq, show (2 : Nat) ^ 8 = 256 from rfl] at this
  rw [Nat.or_comm, ← this]; omega
theorem or16 (a b : UInt8) : (a.toUInt16 ||| shl16 b.toUInt16 8).toNat = a.toNat + 256 * b.toNat := by
  have ha := a.toNat_lt
  have hb := b.toNat_lt
  have e1 : (shl16 b.toUInt16 8).toNat = b.toNat * 256 := by
    show (b.toUInt16.toBitVec <<< 8).toNat = _
    rw [BitVec.toNat_shiftLeft, Nat.shiftLeft_eq]
    show b.toUInt16.toNat * 2 ^ 8 % 2 ^ 16 = _
    rw [UInt8.toNat_toUInt16]; omega
  rw [UInt16.toNat_or, e1, UInt8.toNat_toUInt16]
  exact or_bytes _ _ ha
theorem not8 (a : UInt8) : (~~~ a).toNat = 255 - a.toNat := by
  have := a.toNat_lt
  rw [UInt8.toNat_not, show UInt8.size = 256 from rfl]
theorem not16 (a : UInt16) : (~~~ a).toNat = 65535 - a.toNat := by
  have := a.toNat_lt
  rw [UInt16.toNat_not, show UInt16.size = 65536 from rfl]
theorem twice (a b : UInt8) : ~~~ ((~~~ a).toUInt16 ||| shl16 (~~~ b).toUInt16 8) = a.toUInt16 ||| shl16 b.toUInt16 8 := by
  apply UInt16.toNat_inj.1
  have ha := a.toNat_lt
  have hb := b.toNat_lt
  rw [not16, or16, or16, not8, not8]; omega
theorem toU8_nat (n : Nat) : (toU8 (n : Int)).toNat = n % 256 := by
  unfold toU8; simp only [UInt8.toNat_ofNat']; omega
theorem gz_len (m : Nat) (hm : m < 65536) : ((toU8 (m : Int)).toUInt16 ||| shl16 (toU8 ((m : Int) / 2 ^ 8)).toUInt16 8).toNat = m := by
  rw [or16, toU8_nat, show ((m : Int) / 2 ^ 8) = ((m / 256 : Nat) : Int) by omega, toU8_nat]; omega
theorem or32 (n : UInt32) : (((n.toUInt8.toUInt32 ||| shl32 (shr32 n 8).toUInt8.toUInt32 8) ||| shl32 (shr32 n 16).toUInt8.toUInt32 16) ||| shl32 (shr32 n 24).toUInt8.toUInt32 24) = n := by
  have hx := n.toNat_lt
  apply UInt32.toNat_inj.1
  have e1 : ∀ k, (shr32 n k).toNat = n.toNat / 2 ^ k := fun k => by
    show (n.toBitVec >>> k).toNat = _
    rw [BitVec.toNat_ushiftRight, Nat.shiftRight_eq_div_pow]; rfl
  have e2 : ∀ (y : UInt32) (k : Nat), (shl32 y.toUInt8.toUInt32 k).toNat = (y.toNat % 256) * 2 ^ k % 2 ^ 32 := fun y k => by
    show (y.toUInt8.toUInt32.toBitVec <<< k).toNat = _
    rw [BitVec.toNat_shiftLeft, Nat.shiftLeft_eq]
    show y.toUInt8.toUInt32.toNat * 2 ^ k % 2 ^ 32 = _
    simp
  have e3 : n.toUInt8.toUInt32.toNat = n.toNat % 256 := by simp
  rw [UInt32.toNat_or, UInt32.toNat_or, UInt32.toNat_or, e2, e2, e2, e3, e1, e1, e1]
  have f1 : ∀ (a b i : Nat), a < 2 ^ i → a ||| b * 2 ^ i = a + b * 2 ^ i := fun a b i h => by
    have := Nat.shiftLeft_add_eq_or_of_lt h b
    rw [Nat.shiftLeft_eq] at this
    rw [Nat.or_comm, ← this]; omega
  rw [Nat.mod_eq_of_lt (show n.toNat / 2 ^ 8 % 256 * 2 ^ 8 < 2 ^ 32 by omega), Nat.mod_eq_of_lt (show n.toNat / 2 ^ 16 % 256 * 2 ^ 16 < 2 ^ 32 by omega), Nat.mod_eq_of_lt (show n.toNat / 2 ^ 24 % 256 * 2 ^ 24 < 2 ^ 32 by omega)]
  rw [f1 _ _ 8 (by omega), f1 _ _ 16 (by omega), f1 _ _ 24 (by omega)]
  omega
end Go.Proofs.YtlhncphipfkkjaaGreatDoor

namespace Go.Proofs.YtlhncphipfkkjaaGreatDoor
open Go
theorem and_one {x : UInt32} (h : x &&& 1 ≠ 0) : x &&& 1 = 1 := by
  have h1 : (x &&& 1).toNat = x.toNat % 2 := by rw [UInt32.toNat_and]; exact Nat.and_two_pow_sub_one_eq_mod x.toNat 1
  have h2 : (x &&& 1).toNat ≠ 0 := fun e => h (UInt32.toNat_inj.1 e)
  apply UInt32.toNat_inj.1
  show (x &&& 1).toNat = 1
  omega
theorem crc_q {te : TypeId} (x : UInt32) (l xs : List UInt8) (bp off m cap : Nat) (fr : Nat × Nat) (hxs : (l.drop off).take m = xs) (hm : xs.length = m) (hml : m ≤ 1099511627776) : Quiet Tryz.prog 134 #[.int .u32 x.toNat, sl bp off m cap] [(bp, .cells ⟨bV l⟩ te fr)] (.int .u32 (~~~ crcL (~~~ x) xs).toNat) := by
  refine Quiet.of_gives fun g Fr => ?_
  refine Gives.enter Tryz.func134 rfl Tryz.ntmps134 rfl ?_
  refine TC.seq ?_
  refine TC.region ?_
  refine TL.val (Yl.assign rfl) rfl ?_
  refine TL.next ?_
  refine TC.seq ?_
  refine TC.region ?_
  refine TL.val (Yl.move rfl) rfl ?_
  refine TL.val (Yl.not32 rfl) rfl ?_
  refine TL.val (Yl.assign rfl) rfl ?_
  refine TL.next ?_
  refine TC.seq ?_
  refine TC.seq ?_
  refine TC.region ?_
  refine TL.val (Yl.move rfl) rfl ?_
  refine TL.val (Yl.lenL Tryz.underlying40 rfl) rfl ?_
  refine TL.val (Yl.move rfl) rfl ?_
  refine TL.next ?_
  refine TC.block ?_
  refine TC.loopI (σ := Nat) (fun k => [(0, .int .u32 (crcL (~~~ x) (xs.take k)).toNat), (9, sl bp off m cap), (10, .int .i64 (m : Int)), (11, .int .i64 (k : Int))]) (fun k => (bp, .cells ⟨bV l⟩ te fr) :: Fr) (fun k => k ≤ m) (fun k => m - k) 0 ⟨rfl, rfl, rfl, rfl, trivial⟩ (fun _ h => h) (Nat.zero_le _) (fun k hk => ?_)
  refine TC.seq ?_
  refine TC.region ?_
  refine TL.val (Yl.lss rfl rfl rfl) rfl ?_
  refine TL.next ?_
  refine TC.seq ?_
  refine TC.cond rfl (fun hc12 => ?_) (fun hc12 => ?_)
  · replace hc12 := of_decide_eq_true hc12
    refine TC.skip_next ?_
    refine TC.seq ?_
    refine TC.block ?_
    refine TC.seq ?_
    obtain ⟨c, hc⟩ : ∃ c, xs[k]? = some c := ⟨xs[k]'(by omega), List.getElem?_eq_getElem (by omega)⟩
    have hg : l[off + k]? = some c := by
      rw [← hxs, List.getElem?_take, if_pos (by omega), List.getElem?_drop] at hc
      exact hc
    refine TC.region ?_
    refine TL.val (Yl.idxAddrS (j := k) (o := off + k) Tryz.underlying40 sz5 rfl rfl rfl (by omega) (by omega)) rfl ?_
    refine TL.val (Yl.loadB (off := off + k) Tryz.underlying5 rfl rfl (by repeat (first | exact Foc.head | apply Foc.tail | apply Foc.right)) rfl hg) rfl ?_
    refine TL.val (Yl.assign rfl) rfl ?_
    refine TL.next ?_
    refine TC.seq ?_
    refine TC.region ?_
    refine TL.val (Yl.move rfl) rfl ?_
    refine TL.val (Yl.move rfl) rfl ?_
    refine TL.val (Yl.conv Tryz.underlying5 Tryz.underlying42 rfl (w32_u8 _)) rfl ?_
    refine TL.val (Yl.xor32  rfl rfl) rfl ?_
    refine TL.val (Yl.assign rfl) rfl ?_
    refine TL.next ?_
    refine TC.seq ?_
    refine TC.region ?_
    refine TL.val (Yl.move rfl) rfl ?_
    refine TL.next ?_
    refine TC.block ?_
    refine TC.loopI (σ := Nat) (fun j => [(0, .int .u32 (iterN crcBit j (crcL (~~~ x) (xs.take k) ^^^ c.toUInt32)).toNat), (9, sl bp off m cap), (10, .int .i64 (m : Int)), (11, .int .i64 (k : Int)), (19, .int .i64 (j : Int))]) (fun j => (bp, .cells ⟨bV l⟩ te fr) :: Fr) (fun j => j ≤ 8) (fun j => 8 - j) 0 ⟨rfl, rfl, rfl, rfl, rfl, trivial⟩ (fun _ h => h) (by omega) (fun j hj => ?_)
    refine TC.seq ?_
    refine TC.region ?_
    refine TL.val (Yl.lss rfl rfl rfl) rfl ?_
    refine TL.next ?_
    refine TC.seq ?_
    refine TC.cond rfl (fun hc20 => ?_) (fun hc20 => ?_)
    · replace hc20 := of_decide_eq_true hc20
      refine TC.skip_next ?_
      refine TC.seq ?_
      refine TC.block ?_
      refine TC.seq ?_
      by_cases hb : (iterN crcBit j (crcL (~~~ x) (xs.take k) ^^^ c.toUInt32)) &&& 1 = 1
      · refine TC.region ?_
        refine TL.val (Yl.move rfl) rfl ?_
        refine TL.val (Yl.and32 (b := 1) rfl rfl) rfl ?_
        refine TL.val (Yl.neq32 (b := 0) rfl rfl (decide_eq_true (by rw [hb]; decide))) rfl ?_
        refine TL.next ?_
        refine TC.yes rfl ?_
        refine TC.region ?_
        refine TL.val (Yl.move rfl) rfl ?_
        refine TL.val (Yl.shr32 (c := 1) rfl rfl) rfl ?_
        refine TL.val (Yl.xor32 (b := 3988292384) rfl rfl) rfl ?_
        refine TL.val (Yl.assign rfl) rfl ?_
        refine TL.next ?_
        refine TC.region ?_
        refine TL.val (Yl.add rfl rfl (wI (by omega))) rfl ?_
        refine TL.val (Yl.move rfl) rfl ?_
        exact TL.done (Inv.again (j + 1) (by omega) (by omega) ⟨(by simp only [iterN, crcBit]; rw [if_pos hb]; rfl), rfl, rfl, rfl, rfl, trivial⟩ (fun _ h => h))
      · refine TC.region ?_
        refine TL.val (Yl.move rfl) rfl ?_
        refine TL.val (Yl.and32 (b := 1) rfl rfl) rfl ?_
        refine TL.val (Yl.neq32 (b := 0) rfl rfl (decide_eq_false (fun h => hb (and_one h)))) rfl ?_
        refine TL.next ?_
        refine TC.no rfl ?_
        refine TC.region ?_
        refine TL.val (Yl.move rfl) rfl ?_
        refine TL.val (Yl.shr32 (c := 1) rfl rfl) rfl ?_
        refine TL.val (Yl.assign rfl) rfl ?_
        refine TL.next ?_
        refine TC.region ?_
        refine TL.val (Yl.add rfl rfl (wI (by omega))) rfl ?_
        refine TL.val (Yl.move rfl) rfl ?_
        exact TL.done (Inv.again (j + 1) (by omega) (by omega) ⟨(by simp only [iterN, crcBit]; rw [if_neg hb]; rfl), rfl, rfl, rfl, rfl, trivial⟩ (fun _ h => h))
    · replace hc20 := of_decide_eq_false hc20
      refine TC.exit_next rfl ?_
      obtain rfl : j = 8 := by omega
      refine TC.region ?_
      refine TL.val (Yl.add rfl rfl (wI (by omega))) rfl ?_
      refine TL.val (Yl.move rfl) rfl ?_
      exact TL.done (Inv.again (k + 1) (by omega) (by omega) ⟨(by rw [crcL_snoc _ _ _ _ hc]; rfl), rfl, rfl, rfl, trivial⟩ (fun _ h => h))
  · replace hc12 := of_decide_eq_false hc12
    refine TC.exit_next rfl ?_
    refine TC.seq ?_
    obtain rfl : k = m := by omega
    rw [List.take_of_length_le (by omega)]
    refine TC.region ?_
    refine TL.val (Yl.move rfl) rfl ?_
    refine TL.val (Yl.not32 rfl) rfl ?_
    refine TL.val (Yl.assign rfl) rfl ?_
    refine TL.next ?_
    exact TC.back1 () rfl rfl (fun _ h => h)
theorem take_g {ea : Addr} {z : List UInt8} (R : Rdr ea z) (i : Nat) (s : R.St i) (k : Nat) (hk : 0 < k) (hk2 : k ≤ 1000) (hd : i + k ≤ z.length) (hdl : z.length ≤ 1099511627776) (bg : Nat) (cs : List Value) (g : World) (Fr : HL) : Gives Tryz.prog 50 #[pt bg 0, .int .i64 (k : Int)] g ((bg, oC (.iface R.t R.v :: cs) 171) :: (R.heap i s ++ (eofB ea :: Fr))) ((_ : Nat) × R.St (i + k)) (fun q => .tuple #[sl q.1 0 k k, .nilIface])
    (fun q => (bg, oC (.iface R.t R.v :: cs) 171) :: (q.1, oC (bV ((z.drop i).take k)) 5) :: (R.heap (i + k) q.2 ++ (eofB ea :: Fr))) := by
  refine Gives.enter Tryz.func50 rfl Tryz.ntmps50 rfl ?_
  refine TC.seq ?_
  refine TC.region ?_
  refine TL.val (Yl.assign rfl) rfl ?_
  refine TL.val (Yl.assign rfl) rfl ?_
  refine TL.next ?_
  refine TC.seq ?_
  refine TC.region ?_
  refine TL.val (Yl.move rfl) rfl ?_
  refine TL.eff (Eff.makeB (i := k) (j := k) Tryz.underlying40 sz5 by5 zr5 rfl rfl rfl rfl (by omega) (by omega)) rfl fun b10 => ?_
  refine TL.val (Yl.assign rfl) rfl ?_
  refine TL.next ?_
  refine TC.seq ?_
  refine TC.region ?_
  refine TL.val (Yl.move rfl) rfl ?_
  refine TL.val (Yl.nilCheckP rfl) rfl ?_
  refine TL.val (Yl.fieldAddr (k := 110) (m := 0) (o := 0) Tryz.underlying171 rfl sz110 rfl rfl) rfl ?_
  refine TL.val (Yl.load1 (v := .iface R.t R.v) Tryz.underlying110 rfl rfl (by repeat (first | exact Foc.head | apply Foc.tail | apply Foc.right)) rfl) rfl ?_
  refine TL.val (Yl.move rfl) rfl ?_
  refine TL.call (Cll.func (xs := [_, _]) (vs := [_, _]) Tryz.func49 rfl (by kernel_rfl) ⟨rfl, rfl, trivial⟩) rfl (Gives.of (fun _ h => Own.inA (Pulls.perm (.cons (by repeat (first | exact Pull.head | apply Pull.tail)) (.cons (by repeat (first | exact Pull.head | apply Pull.tail)) .nil))) (Own.mid (A := [_, _]) h)) (readFull_g R i s 5 (List.replicate k 0) b10 0 k k hk (Nat.le_refl _) (by simp) hd hdl (by simp; omega) g ((bg, oC (.iface R.t R.v :: cs) 171) :: Fr))) fun q => ?_
  rw [layB_full (by rw [take_len hd, List.length_replicate])]
  refine TL.val (Yl.move rfl) rfl ?_
  refine TL.val (Yl.extract rfl rfl) rfl ?_
  refine TL.val (Yl.extract rfl rfl) rfl ?_
  refine TL.val (Yl.assign rfl) rfl ?_
  refine TL.val (Yl.assign rfl) rfl ?_
  refine TL.next ?_
  refine TC.seq ?_
  refine TC.seq ?_
  refine TC.region ?_
  refine TL.val (Yl.move rfl) rfl ?_
  refine TL.val (Yl.load1 (v := eofV ea) Tryz.underlying58 rfl rfl (by repeat (first | exact Foc.head | apply Foc.tail | apply Foc.right)) rfl) rfl ?_
  refine TL.val (Yl.eqlN Tryz.underlying58 rfl rfl) rfl ?_
  refine TL.val (Yl.move rfl) rfl ?_
  refine TL.no rfl rfl rfl rfl rfl ?_
  refine TL.no rfl rfl rfl rfl rfl ?_
  refine TL.val (Yl.pickF rfl rfl) rfl ?_
  refine TL.val (Yl.move rfl) rfl ?_
  refine TL.no rfl rfl rfl rfl rfl ?_
  refine TL.no rfl rfl rfl rfl rfl ?_
  refine TL.val (Yl.pickF rfl rfl) rfl ?_
  refine TL.next ?_
  refine TC.no rfl ?_
  refine TC.skip_next ?_
  refine TC.seq ?_
  refine TC.region ?_
  refine TL.val (Yl.move rfl) rfl ?_
  refine TL.val (Yl.move rfl) rfl ?_
  refine TL.val (Yl.assign rfl) rfl ?_
  refine TL.val (Yl.assign rfl) rfl ?_
  refine TL.next ?_
  exact TC.back2 ⟨b10, q⟩ rfl rfl rfl rfl (fun _ h => Own.mid (A := R.heap _ _) (H1 := [_, _]) (Own.inA (Pulls.perm (.cons (by repeat (first | exact Pull.head | apply Pull.tail)) (.cons (by repeat (first | exact Pull.head | apply Pull.tail)) .nil))) h))
theorem Own.hs {g w : World} {b3 bg : Nat} {o o' : Obj} {A Fr : HL} {e : Nat × Obj} (h : Own g w ((b3, o) :: (bg, o') :: (A ++ (e :: Fr)))) : Own g w ((bg, o') :: Fr) :=
  h.sub (.cons _ (.cons_cons _ (List.Sublist.trans (.cons _ (.refl _)) (List.sublist_append_right _ _))))
theorem Own.hs2 {g w : World} {b3 bg : Nat} {o o' : Obj} {A Fr : HL} {e : Nat × Obj} (h : Own g w (A ++ ((b3, o) :: e :: (bg, o') :: Fr))) : Own g w ((bg, o') :: Fr) :=
  h.sub (List.Sublist.trans (.cons _ (.cons _ (.refl _))) (List.sublist_append_right _ _))
theorem header_g {ea : Addr} {z : List UInt8} (R : Rdr ea z) (s : R.St 0) (r : List UInt8) (hz : z = gzHead ++ r) (hdl : z.length ≤ 1099511627776) (bg : Nat) (ch ce : Value) (cm cn cl : Int) (cb : Bool) (g : World) (Fr : HL) : Gives Tryz.prog 44 #[pt bg 0] g ((bg, oC [.iface R.t R.v, ch, .int .u32 cm, .int .u32 cn, .int .i64 cl, .bool cb, ce] 171) :: (R.heap 0 s ++ (eofB ea :: Fr))) (R.St 10) (fun _ => .nilIface)
    (fun s => (bg, oC [.iface R.t R.v, ch, .int .u32 0, .int .u32 0, .int .i64 0, .bool false, ce] 171) :: (R.heap 10 s ++ (eofB ea :: Fr))) := by
  have hz10 : 10 ≤ z.length := by rw [hz, List.length_append]; show 10 ≤ 10 + _; omega
  have hhead : layB (List.replicate 10 0) 0 ((z.drop 0).take (10 : Nat)) = gzHead := by
    rw [List.drop_zero, hz]; rfl
  refine Gives.enter Tryz.func44 rfl Tryz.ntmps44 rfl ?_
  refine TC.seq ?_
  refine TC.region ?_
  refine TL.val (Yl.assign rfl) rfl ?_
  refine TL.next ?_
  refine TC.seq ?_
  refine TC.region ?_
  refine TL.eff (Eff.alloc (zs := bV (List.replicate 10 0)) zr185 rfl) rfl fun b3 => ?_
  refine TL.next ?_
  refine TC.seq ?_
  refine TC.seq ?_
  refine TC.draws [] ((bg, oC [.iface R.t R.v, ch, .int .u32 cm, .int .u32 cn, .int .i64 cl, .bool cb, ce] 171) :: Fr) mixed (by kernel_rfl) rfl (fun _ h => Own.hs h) ?_
  refine TA.pure 0 rfl (by kernel_rfl) (Yl.move rfl) rfl ?_
  refine TA.pure 1 rfl (by kernel_rfl) (Yl.nilCheckP rfl) rfl ?_
  refine TA.pure 2 rfl (by kernel_rfl) (Yl.fieldAddr (k := 110) (m := 0) (o := 0) Tryz.underlying171 rfl sz110 rfl rfl) rfl ?_
  refine TA.load 3 rfl (by kernel_rfl) (Yl.load1 (v := .iface R.t R.v) Tryz.underlying110 rfl rfl (by repeat (first | exact Foc.head | apply Foc.tail | apply Foc.right)) rfl) rfl ?_
  refine TA.pure 4 rfl (by kernel_rfl) (Yl.arr Tryz.underlying185 sz5 rfl rfl) rfl ?_
  refine TA.one 5 (by kernel_rfl) ?_
  refine Up.call rfl rfl (Cll.func (xs := [_, _]) (vs := [_, _]) Tryz.func49 rfl (by kernel_rfl) ⟨rfl, rfl, trivial⟩) rfl (Gives.of (fun _ h => Own.inA (Pulls.perm (.cons (by repeat (first | exact Pull.head | apply Pull.tail)) (.cons (by repeat (first | exact Pull.head | apply Pull.tail)) .nil))) (Own.mid (A := [_, _]) h)) (readFull_g R 0 s 185 (List.replicate 10 0) b3 0 10 10 (by decide) (by decide) (by decide) (by omega) hdl (by decide) g ((bg, oC [.iface R.t R.v, ch, .int .u32 cm, .int .u32 cn, .int .i64 cl, .bool cb, ce] 171) :: Fr))) (fun _ => .inr (fun _ h => Own.hs2 h)) fun q => ?_
  rw [hhead]
  refine TA.pure 6 rfl (by kernel_rfl) (Yl.move rfl) rfl ?_
  refine TA.pure 7 rfl (by kernel_rfl) (Yl.extract rfl rfl) rfl ?_
  refine TA.pure 8 rfl (by kernel_rfl) (Yl.extract rfl rfl) rfl ?_
  refine TA.pure 9 rfl (by kernel_rfl) (Yl.assign rfl) rfl ?_
  refine TA.pure 10 rfl (by kernel_rfl) (Yl.assign rfl) rfl ?_
  refine TA.next (by kernel_rfl) ?_
  refine TC.seq ?_
  refine TC.region ?_
  refine TL.val (Yl.move rfl) rfl ?_
  refine TL.val (Yl.neqNilN Tryz.underlying58 rfl rfl) rfl ?_
  refine TL.next ?_
  refine TC.no rfl ?_
  refine TC.skip_next ?_
  refine TC.seq ?_
  refine TC.seq ?_
  refine TC.region ?_
  refine TL.val (Yl.idxAddrA (j := 0) (o := 0) Tryz.underlying185 sz5 rfl rfl rfl (Nat.le_of_ble_eq_true rfl) rfl) rfl ?_
  refine TL.val (Yl.load1 (v := .int .u8 ((31 : UInt8).toNat : Int)) (off := 0) Tryz.underlying5 rfl rfl (by repeat (first | exact Foc.head | apply Foc.tail | apply Foc.right)) rfl) rfl ?_
  refine TL.val (Yl.neq (b := false) rfl rfl rfl) rfl ?_
  refine TL.val (Yl.move rfl) rfl ?_
  refine TL.yes rfl rfl rfl ?_
  refine TL.val (Yl.idxAddrA (j := 1) (o := 1) Tryz.underlying185 sz5 rfl rfl rfl (Nat.le_of_ble_eq_true rfl) rfl) rfl ?_
  refine TL.yes rfl rfl rfl ?_
  refine TL.val (Yl.load1 (v := .int .u8 ((139 : UInt8).toNat : Int)) (off := 1) Tryz.underlying5 rfl rfl (by repeat (first | exact Foc.head | apply Foc.tail | apply Foc.right)) rfl) rfl ?_
  refine TL.yes rfl rfl rfl ?_
  refine TL.val (Yl.neq (b := false) rfl rfl rfl) rfl ?_
  refine TL.val (Yl.pickF rfl rfl) rfl ?_
  refine TL.val (Yl.move rfl) rfl ?_
  refine TL.yes rfl rfl rfl ?_
  refine TL.val (Yl.idxAddrA (j := 2) (o := 2) Tryz.underlying185 sz5 rfl rfl rfl (Nat.le_of_ble_eq_true rfl) rfl) rfl ?_
  refine TL.yes rfl rfl rfl ?_
  refine TL.val (Yl.load1 (v := .int .u8 ((8 : UInt8).toNat : Int)) (off := 2) Tryz.underlying5 rfl rfl (by repeat (first | exact Foc.head | apply Foc.tail | apply Foc.right)) rfl) rfl ?_
  refine TL.yes rfl rfl rfl ?_
  refine TL.val (Yl.neq (b := false) rfl rfl rfl) rfl ?_
  refine TL.val (Yl.pickF rfl rfl) rfl ?_
  refine TL.next ?_
  refine TC.no rfl ?_
  refine TC.skip_next ?_
  refine TC.seq ?_
  refine TC.seq ?_
  refine TC.region ?_
  refine TL.val (Yl.idxAddrA (j := 3) (o := 3) Tryz.underlying185 sz5 rfl rfl rfl (Nat.le_of_ble_eq_true rfl) rfl) rfl ?_
  refine TL.val (Yl.load1 (v := .int .u8 ((0 : UInt8).toNat : Int)) (off := 3) Tryz.underlying5 rfl rfl (by repeat (first | exact Foc.head | apply Foc.tail | apply Foc.right)) rfl) rfl ?_
  refine TL.val (Yl.and8 (a := 0) (b := 4) rfl rfl) rfl ?_
  refine TL.val (Yl.neq (b := false) rfl rfl rfl) rfl ?_
  refine TL.next ?_
  refine TC.no rfl ?_
  refine TC.skip_next ?_
  refine TC.seq ?_
  refine TC.seq ?_
  refine TC.region ?_
  refine TL.eff (Eff.lits1 [_, _] (vs := bV [8, 16]) Tryz.underlying40 sz5 zr5 rfl ⟨rfl, rfl, trivial⟩ rfl rfl rfl) rfl fun b71 => ?_
  refine TL.val (Yl.lenL Tryz.underlying40 rfl) rfl ?_
  refine TL.val (Yl.move rfl) rfl ?_
  refine TL.next ?_
  refine TC.block ?_
  refine TC.loopI (σ := Nat) (fun k => [(0, pt bg 0), (3, pt b3 0), (71, sl b71 0 2 2), (72, .int .i64 2), (73, .int .i64 (k : Int))]) (fun k => (b71, oC (bV [8, 16]) 5) :: (R.heap 10 q ++ ((b3, oC (bV gzHead) 185) :: eofB ea :: (bg, oC [.iface R.t R.v, ch, .int .u32 cm, .int .u32 cn, .int .i64 cl, .bool cb, ce] 171) :: Fr))) (fun k => k ≤ 2) (fun k => 2 - k) 0 ⟨rfl, rfl, rfl, rfl, rfl, trivial⟩ (fun _ h => h) (Nat.zero_le _) (fun k hk => ?_)
  refine TC.seq ?_
  refine TC.region ?_
  refine TL.val (Yl.lss rfl rfl rfl) rfl ?_
  refine TL.next ?_
  refine TC.seq ?_
  refine TC.cond rfl (fun hc74 => ?_) (fun hc74 => ?_)
  · replace hc74 := of_decide_eq_true hc74
    refine TC.skip_next ?_
    refine TC.seq ?_
    refine TC.block ?_
    refine TC.seq ?_
    obtain ⟨c, hc⟩ : ∃ c, ([8, 16] : List UInt8)[k]? = some c := ⟨([8, 16] : List UInt8)[k]'(by show k < 2; omega), List.getElem?_eq_getElem _⟩
    refine TC.region ?_
    refine TL.val (Yl.idxAddrS (j := k) (o := k) Tryz.underlying40 sz5 rfl rfl rfl (by omega) (by omega)) rfl ?_
    refine TL.val (Yl.loadB (off := k) Tryz.underlying5 rfl rfl (by repeat (first | exact Foc.head | apply Foc.tail | apply Foc.right)) rfl hc) rfl ?_
    refine TL.val (Yl.assign rfl) rfl ?_
    refine TL.next ?_
    refine TC.seq ?_
    refine TC.region ?_
    refine TL.val (Yl.idxAddrA (j := 3) (o := 3) Tryz.underlying185 sz5 rfl rfl rfl (Nat.le_of_ble_eq_true rfl) rfl) rfl ?_
    refine TL.val (Yl.load1 (v := .int .u8 ((0 : UInt8).toNat : Int)) (off := 3) Tryz.underlying5 rfl rfl (by repeat (first | exact Foc.head | apply Foc.tail | apply Foc.right)) rfl) rfl ?_
    refine TL.val (Yl.move rfl) rfl ?_
    refine TL.val (Yl.and8 (a := 0) (b := c) rfl rfl) rfl ?_
    refine TL.val (Yl.neq (b := false) rfl rfl (by rw [UInt8.zero_and]; rfl)) rfl ?_
    refine TL.next ?_
    refine TC.no rfl ?_
    refine TC.skip_next ?_
    refine TC.region ?_
    refine TL.val (Yl.add rfl rfl (wI (by omega))) rfl ?_
    refine TL.val (Yl.move rfl) rfl ?_
    exact TL.done (Inv.again (k + 1) (by omega) (by omega) ⟨rfl, rfl, rfl, rfl, rfl, trivial⟩ (fun _ h => h))
  · replace hc74 := of_decide_eq_false hc74
    refine TC.exit_next rfl ?_
    refine TC.seq ?_
    refine TC.seq ?_
    refine TC.region ?_
    refine TL.val (Yl.idxAddrA (j := 3) (o := 3) Tryz.underlying185 sz5 rfl rfl rfl (Nat.le_of_ble_eq_true rfl) rfl) rfl ?_
    refine TL.val (Yl.load1 (v := .int .u8 ((0 : UInt8).toNat : Int)) (off := 3) Tryz.underlying5 rfl rfl (by repeat (first | exact Foc.head | apply Foc.tail | apply Foc.right)) rfl) rfl ?_
    refine TL.val (Yl.and8 (a := 0) (b := 2) rfl rfl) rfl ?_
    refine TL.val (Yl.neq (b := false) rfl rfl rfl) rfl ?_
    refine TL.next ?_
    refine TC.no rfl ?_
    refine TC.skip_next ?_
    refine TC.seq ?_
    refine TC.region ?_
    refine TL.val (Yl.move rfl) rfl ?_
    refine TL.val (Yl.move rfl) rfl ?_
    refine TL.val (Yl.move rfl) rfl ?_
    refine TL.val (Yl.move rfl) rfl ?_
    refine TL.val (Yl.nilCheckP rfl) rfl ?_
    refine TL.val (Yl.fieldAddr (k := 42) (m := 2) (o := 2) Tryz.underlying171 rfl sz42 rfl rfl) rfl ?_
    refine TL.skp (Skp.store1 sz42 rfl rfl rfl (by repeat (first | exact Foc.head | apply Foc.tail | apply Foc.right)) (Nat.le_of_ble_eq_true rfl) rfl) ?_
    refine TL.val (Yl.nilCheckP rfl) rfl ?_
    refine TL.val (Yl.fieldAddr (k := 42) (m := 3) (o := 3) Tryz.underlying171 rfl sz42 rfl rfl) rfl ?_
    refine TL.skp (Skp.store1 sz42 rfl rfl rfl (by repeat (first | exact Foc.head | apply Foc.tail | apply Foc.right)) (Nat.le_of_ble_eq_true rfl) rfl) ?_
    refine TL.val (Yl.nilCheckP rfl) rfl ?_
    refine TL.val (Yl.fieldAddr (k := 3) (m := 4) (o := 4) Tryz.underlying171 rfl sz3 rfl rfl) rfl ?_
    refine TL.skp (Skp.store1 sz3 rfl rfl rfl (by repeat (first | exact Foc.head | apply Foc.tail | apply Foc.right)) (Nat.le_of_ble_eq_true rfl) rfl) ?_
    refine TL.val (Yl.nilCheckP rfl) rfl ?_
    refine TL.val (Yl.fieldAddr (k := 4) (m := 5) (o := 5) Tryz.underlying171 rfl sz4 rfl rfl) rfl ?_
    refine TL.skp (Skp.store1 sz4 rfl rfl rfl (by repeat (first | exact Foc.head | apply Foc.tail | apply Foc.right)) (Nat.le_of_ble_eq_true rfl) rfl) ?_
    refine TL.next ?_
    refine TC.seq ?_
    refine TC.region ?_
    refine TL.val (Yl.assign rfl) rfl ?_
    refine TL.next ?_
    exact TC.back1 q rfl rfl (fun _ h => Own.mid (A := R.heap _ _) (H1 := [_]) (Own.inA (Pulls.perm (.cons (by repeat (first | exact Pull.head | apply Pull.tail)) .nil)) (h.sub (.cons _ (List.Sublist.append (.refl _) (.cons _ (.refl _)))))))
theorem headerEof_g {ea : Addr} {z : List UInt8} (R : Rdr ea z) (s : R.St z.length) (bg : Nat) (ch ce : Value) (cm cn cl : Int) (cb : Bool) (g : World) (Fr : HL) : Gives Tryz.prog 44 #[pt bg 0] g ((bg, oC [.iface R.t R.v, ch, .int .u32 cm, .int .u32 cn, .int .i64 cl, .bool cb, ce] 171) :: (R.heap z.length s ++ (eofB ea :: Fr))) (R.St z.length) (fun _ => eofV ea)
    (fun s => (bg, oC [.iface R.t R.v, ch, .int .u32 cm, .int .u32 cn, .int .i64 cl, .bool cb, ce] 171) :: (R.heap z.length s ++ (eofB ea :: Fr))) := by
  refine Gives.enter Tryz.func44 rfl Tryz.ntmps44 rfl ?_
  refine TC.seq ?_
  refine TC.region ?_
  refine TL.val (Yl.assign rfl) rfl ?_
  refine TL.next ?_
  refine TC.seq ?_
  refine TC.region ?_
  refine TL.eff (Eff.alloc (zs := bV (List.replicate 10 0)) zr185 rfl) rfl fun b3 => ?_
  refine TL.next ?_
  refine TC.seq ?_
  refine TC.seq ?_
  refine TC.draws [] ((bg, oC [.iface R.t R.v, ch, .int .u32 cm, .int .u32 cn, .int .i64 cl, .bool cb, ce] 171) :: Fr) mixed (by kernel_rfl) rfl (fun _ h => Own.hs h) ?_
  refine TA.pure 0 rfl (by kernel_rfl) (Yl.move rfl) rfl ?_
  refine TA.pure 1 rfl (by kernel_rfl) (Yl.nilCheckP rfl) rfl ?_
  refine TA.pure 2 rfl (by kernel_rfl) (Yl.fieldAddr (k := 110) (m := 0) (o := 0) Tryz.underlying171 rfl sz110 rfl rfl) rfl ?_
  refine TA.load 3 rfl (by kernel_rfl) (Yl.load1 (v := .iface R.t R.v) Tryz.underlying110 rfl rfl (by repeat (first | exact Foc.head | apply Foc.tail | apply Foc.right)) rfl) rfl ?_
  refine TA.pure 4 rfl (by kernel_rfl) (Yl.arr Tryz.underlying185 sz5 rfl rfl) rfl ?_
  refine TA.one 5 (by kernel_rfl) ?_
  refine Up.call rfl rfl (Cll.func (xs := [_, _]) (vs := [_, _]) Tryz.func49 rfl (by kernel_rfl) ⟨rfl, rfl, trivial⟩) rfl (Gives.of (fun _ h => Own.inA (Pulls.perm (.cons (by repeat (first | exact Pull.head | apply Pull.tail)) (.cons (by repeat (first | exact Pull.head | apply Pull.tail)) .nil))) (Own.mid (A := [_, _]) h)) (readFullEof_g R s 185 (List.replicate 10 0) b3 0 10 10 (by decide) (by decide) (by decide) g ((bg, oC [.iface R.t R.v, ch, .int .u32 cm, .int .u32 cn, .int .i64 cl, .bool cb, ce] 171) :: Fr))) (fun _ => .inr (fun _ h => Own.hs2 h)) fun q => ?_
  refine TA.pure 6 rfl (by kernel_rfl) (Yl.move rfl) rfl ?_
  refine TA.pure 7 rfl (by kernel_rfl) (Yl.extract rfl rfl) rfl ?_
  refine TA.pure 8 rfl (by kernel_rfl) (Yl.extract rfl rfl) rfl ?_
  refine TA.pure 9 rfl (by kernel_rfl) (Yl.assign rfl) rfl ?_
  refine TA.pure 10 rfl (by kernel_rfl) (Yl.assign rfl) rfl ?_
  refine TA.next (by kernel_rfl) ?_
  refine TC.seq ?_
  refine TC.region ?_
  refine TL.val (Yl.move rfl) rfl ?_
  refine TL.val (Yl.neqNilI Tryz.underlying58 rfl rfl) rfl ?_
  refine TL.next ?_
  refine TC.yes rfl ?_
  refine TC.seq ?_
  refine TC.region ?_
  refine TL.val (Yl.move rfl) rfl ?_
  refine TL.val (Yl.assign rfl) rfl ?_
  refine TL.next ?_
  exact TC.back1 q rfl rfl (fun _ h => Own.mid (A := R.heap _ _) (H1 := [_]) (Own.inA (Pulls.perm (.cons (by repeat (first | exact Pull.head | apply Pull.tail)) .nil)) (h.sub (List.Sublist.append (.refl _) (.cons _ (.refl _))))))
theorem newGz_g {ea : Addr} {z : List UInt8} (R : Rdr ea z) (s : R.St 0) (r : List UInt8) (hz : z = gzHead ++ r) (hdl : z.length ≤ 1099511627776) (g : World) (Fr : HL) : Gives Tryz.prog 31 #[.iface R.t R.v] g (R.heap 0 s ++ (eofB ea :: Fr)) ((_ : Nat) × R.St 10) (fun q => .tuple #[pt q.1 0, .nilIface])
    (fun q => (q.1, oC [.iface R.t R.v, .slice none 0 0, .int .u32 0, .int .u32 0, .int .i64 0, .bool false, .nilIface] 171) :: (R.heap 10 q.2 ++ (eofB ea :: Fr))) := by
  refine Gives.enter Tryz.func31 rfl Tryz.ntmps31 rfl ?_
  refine TC.seq ?_
  refine TC.region ?_
  refine TL.val (Yl.assign rfl) rfl ?_
  refine TL.val (Yl.assign rfl) rfl ?_
  refine TL.next ?_
  refine TC.seq ?_
  refine TC.region ?_
  refine TL.val (Yl.move rfl) rfl ?_
  refine TL.val (Yl.build (ixs := [0]) (vs := [.iface R.t R.v]) (rs := [.iface R.t R.v, .slice none 0 0, .int .u32 0, .int .u32 0, .int .i64 0, .bool false, .nilIface]) [_] st171 rfl ⟨rfl, trivial⟩ rfl) rfl ?_
  refine TL.eff (Eff.box (v := .agg ⟨[.iface R.t R.v, .slice none 0 0, .int .u32 0, .int .u32 0, .int .i64 0, .bool false, .nilIface]⟩) rfl rfl) rfl fun b7 => ?_
  refine TL.val (Yl.assign rfl) rfl ?_
  refine TL.next ?_
  refine TC.seq ?_
  refine TC.seq ?_
  refine TC.region ?_
  refine TL.val (Yl.move rfl) rfl ?_
  refine TL.val (Yl.move rfl) rfl ?_
  refine TL.call (Cll.func (xs := [_]) (vs := [_]) Tryz.func44 rfl (by kernel_rfl) ⟨rfl, trivial⟩) rfl (header_g R s r hz hdl b7 (.slice none 0 0) .nilIface 0 0 0 false g Fr) fun q => ?_
  refine TL.val (Yl.nilCheckP rfl) rfl ?_
  refine TL.val (Yl.fieldAddr (k := 58) (m := 6) (o := 6) Tryz.underlying171 rfl sz58 rfl rfl) rfl ?_
  refine TL.skp (Skp.store1 sz58 rfl rfl rfl (by repeat (first | exact Foc.head | apply Foc.tail | apply Foc.right)) (Nat.le_of_ble_eq_true rfl) rfl) ?_
  refine TL.next ?_
  refine TC.seq ?_
  refine TC.region ?_
  refine TL.val (Yl.move rfl) rfl ?_
  refine TL.val (Yl.nilCheckP rfl) rfl ?_
  refine TL.val (Yl.fieldAddr (k := 58) (m := 6) (o := 6) Tryz.underlying171 rfl sz58 rfl rfl) rfl ?_
  refine TL.val (Yl.load1 Tryz.underlying58 rfl rfl (by repeat (first | exact Foc.head | apply Foc.tail | apply Foc.right)) rfl) rfl ?_
  refine TL.val (Yl.neqNilN Tryz.underlying58 rfl rfl) rfl ?_
  refine TL.next ?_
  refine TC.no rfl ?_
  refine TC.skip_next ?_
  refine TC.seq ?_
  refine TC.region ?_
  refine TL.val (Yl.move rfl) rfl ?_
  refine TL.val (Yl.assign rfl) rfl ?_
  refine TL.val (Yl.assign rfl) rfl ?_
  refine TL.next ?_
  exact TC.back2 ⟨b7, q⟩ rfl rfl rfl rfl (fun _ h => h)
end Go.Proofs.YtlhncphipfkkjaaGreatDoor

/- The state of the reader of stored blocks. -/
namespace Go.Proofs.YtlhncphipfkkjaaGreatDoor
open Go

theorem Pull.right {A H : HL} {p : Nat × Obj} {H' : HL} (h : Pull H p H') : Pull (A ++ H) p (A ++ H') := by
  induction A with
  | nil => exact h
  | cons q A ih => exact Pull.tail ih
theorem heap_cast {ea : Addr} {z : List UInt8} (R : Rdr ea z) {a b : Nat} (h : a = b) (s : R.St a) : R.heap b (h ▸ s) = R.heap a s := by subst h; rfl
theorem layB_get {l a : List UInt8} {off : Nat} (h : off + a.length ≤ l.length) : ((layB l off a).drop off).take a.length = a := by
  unfold layB
  have h1 : (l.take off).length = off := by rw [List.length_take]; omega
  rw [List.append_assoc, List.drop_append_of_le_length (by omega), List.drop_eq_nil_of_le (by omega), List.nil_append, List.take_left]
theorem toU32_add (n k : Nat) : toU32 (n : Int) + toU32 (k : Int) = toU32 ((n + k : Nat) : Int) := by
  apply UInt32.toNat_inj.1
  rw [UInt32.toNat_add]
  unfold toU32
  simp only [UInt32.toNat_ofNat']
  omega
theorem crcD_q {te : TypeId} (d l : List UInt8) (n bp off k cap : Nat) (fr : Nat × Nat) (h : (l.drop off).take k = (d.drop n).take k) (hk : n + k ≤ d.length) (hd : d.length ≤ 1099511627776) :
    Quiet Tryz.prog 134 #[.int .u32 (crcN (d.take n)).toNat, sl bp off k cap] [(bp, .cells ⟨bV l⟩ te fr)] (.int .u32 (crcN (d.take (n + k))).toNat) := by
  have := crc_q (te := te) (crcN (d.take n)) l ((d.drop n).take k) bp off k cap fr h (take_len hk) (by omega)
  rw [crcN_app, ← List.take_add] at this
  exact this

def GzOk (z d : List UInt8) (c n left i : Nat) (last ended : Bool) : Prop :=
  n + left ≤ d.length ∧ (ended = true → n = d.length ∧ i = z.length) ∧
  (ended = false → ∃ tail, z.drop i = (d.drop n).take left ++ tail ∧
    ((last = true ∧ n + left = d.length ∧ tail = gzEnd d) ∨ (last = false ∧ n + left < d.length ∧ ∃ f, d.length < n + left + f ∧ tail = gzR d c f (n + left))))
structure GzSt {ea : Addr} {z : List UInt8} (R : Rdr ea z) (d : List UInt8) (c n : Nat) where
  left : Nat
  i : Nat
  last : Bool
  ended : Bool
  s : R.St i
  ok : GzOk z d c n left i last ended
def gzC {ea : Addr} {z : List UInt8} (R : Rdr ea z) (d : List UInt8) (n left : Nat) (last ended : Bool) : List Value :=
  [.iface R.t R.v, .slice none 0 0, .int .u32 (crcN (d.take n)).toNat, .int .u32 (toU32 (n : Int)).toNat, .int .i64 (left : Int), .bool last, if ended then eofV ea else .nilIface]
def GzSt.heap {ea : Addr} {z : List UInt8} {R : Rdr ea z} {d : List UInt8} {c n : Nat} (bg : Nat) (st : GzSt R d c n) : HL :=
  (bg, oC (gzC R d n st.left st.last st.ended) 171) :: R.heap st.i st.s

theorem gzBlk_take (d : List UInt8) (c pos : Nat) (x : UInt8) (r : List UInt8) : (gzBlk d c pos x ++ r).take 5 = [x, toU8 (gzM d c pos : Int), toU8 ((gzM d c pos : Int) / 2 ^ 8), ~~~ toU8 (gzM d c pos : Int), ~~~ toU8 ((gzM d c pos : Int) / 2 ^ 8)] := rfl
theorem gzBlk_drop (d : List UInt8) (c pos : Nat) (x : UInt8) (r : List UInt8) : (gzBlk d c pos x ++ r).drop 5 = (d.drop pos).take (gzM d c pos) ++ r := by
  have : (d.take (pos + gzM d c pos)).drop pos = (d.drop pos).take (gzM d c pos) := by rw [List.drop_take, Nat.add_sub_cancel_left]
  rw [← this]; rfl
/-- the next block -/
theorem GzOk.next {z d : List UInt8} {c n i : Nat} (hc : 0 < c) (h : GzOk z d c n 0 i false false) : ∃ lb : Bool,
    (z.drop i).take 5 = [if lb then 1 else 0, toU8 (gzM d c n : Int), toU8 ((gzM d c n : Int) / 2 ^ 8), ~~~ toU8 (gzM d c n : Int), ~~~ toU8 ((gzM d c n : Int) / 2 ^ 8)] ∧ i + 5 ≤ z.length ∧ 0 < gzM d c n ∧ GzOk z d c n (gzM d c n) (i + 5) lb false := by
  obtain ⟨h1, _, h3⟩ := h
  obtain ⟨tail, ht, hh⟩ := h3 rfl
  rcases hh with ⟨hl, _⟩ | ⟨_, hn, f, hf, rfl⟩
  · cases hl
  · rw [List.take_zero, List.nil_append] at ht
    obtain ⟨f, rfl⟩ : ∃ f', f = f' + 1 := ⟨f - 1, by omega⟩
    have hm0 : 0 < gzM d c n := by unfold gzM; exact Nat.lt_min.2 ⟨hc, by omega⟩
    have hm1 := gzM_le2 d c n
    have h5 : ∀ (x : UInt8) (r : List UInt8), z.drop i = gzBlk d c n x ++ r → i + 5 ≤ z.length := fun x r e => by
      have := congrArg List.length e
      rw [List.length_drop, List.length_append, gzBlk, List.length_append] at this
      simp only [List.length_cons, List.length_nil] at this
      omega
    simp only [Nat.add_zero] at ht
    rw [gzR] at ht
    by_cases he : n + gzM d c n = d.length
    · rw [if_pos he] at ht
      refine ⟨true, by rw [ht]; exact gzBlk_take _ _ _ _ _, h5 _ _ ht, hm0, ⟨by omega, fun h => (nomatch h), fun _ => ⟨gzEnd d, ?_, .inl ⟨rfl, he, rfl⟩⟩⟩⟩
      rw [← List.drop_drop, ht, gzBlk_drop]
    · rw [if_neg he] at ht
      obtain ⟨hm2, hm3⟩ := gzM_lt he (by omega)
      refine ⟨false, by rw [ht]; exact gzBlk_take _ _ _ _ _, h5 _ _ ht, hm0, ⟨by omega, fun h => (nomatch h), fun _ => ⟨gzR d c f (n + c), ?_, .inr ⟨rfl, by omega, f, by omega, by rw [hm2]⟩⟩⟩⟩
      rw [← List.drop_drop, ht, gzBlk_drop]
/-- the end -/
theorem GzOk.fin {z d : List UInt8} {c n i : Nat} (h : GzOk z d c n 0 i true false) : n = d.length ∧ i + 8 = z.length ∧ (z.drop i).take 8 = gzEnd d := by
  obtain ⟨h1, _, h3⟩ := h
  obtain ⟨tail, ht, hh⟩ := h3 rfl
  rcases hh with ⟨_, hn, rfl⟩ | ⟨hl, _⟩
  · rw [List.take_zero, List.nil_append] at ht
    have := congrArg List.length ht
    rw [List.length_drop] at this
    have h8 : (gzEnd d).length = 8 := rfl
    rw [h8] at this
    exact ⟨by omega, by omega, by rw [ht]; rfl⟩
  · cases hl
/-- some of a block -/
theorem GzOk.some {z d : List UInt8} {c n left i k : Nat} {last : Bool} (h : GzOk z d c n left i last false) (hk : k ≤ left) : (z.drop i).take k = (d.drop n).take k ∧ GzOk z d c (n + k) (left - k) (i + k) last false := by
  obtain ⟨h1, _, h3⟩ := h
  obtain ⟨tail, ht, hh⟩ := h3 rfl
  have hlen : ((d.drop n).take left).length = left := take_len h1
  have key : ∃ tail, z.drop (i + k) = (d.drop (n + k)).take (left - k) ++ tail ∧
    ((last = true ∧ n + k + (left - k) = d.length ∧ tail = gzEnd d) ∨ (last = false ∧ n + k + (left - k) < d.length ∧ ∃ f, d.length < n + k + (left - k) + f ∧ tail = gzR d c f (n + k + (left - k)))) := by
    refine ⟨tail, ?_, ?_⟩
    · rw [← List.drop_drop, ht, List.drop_append_of_le_length (by omega), List.drop_take, List.drop_drop]
    · rcases hh with ⟨a, b, e⟩ | ⟨a, b, f, hf, e⟩
      · exact .inl ⟨a, by omega, e⟩
      · exact .inr ⟨a, by omega, f, by omega, by rw [show n + k + (left - k) = n + left by omega]; exact e⟩
  refine ⟨?_, ⟨by omega, fun h => (nomatch h), fun _ => key⟩⟩
  · rw [ht, List.take_append_of_le_length (by omega), List.take_take, Nat.min_eq_left hk]
theorem GzOk.room {z d : List UInt8} {c n left i : Nat} {last : Bool} (h : GzOk z d c n left i last false) (hl : 0 < left) : i < z.length := by
  obtain ⟨h1, _, h3⟩ := h
  obtain ⟨tail, ht, _⟩ := h3 rfl
  have := congrArg List.length ht
  rw [List.length_drop, List.length_append, take_len h1] at this
  omega
end Go.Proofs.YtlhncphipfkkjaaGreatDoor

namespace Go.Proofs.YtlhncphipfkkjaaGreatDoor
open Go
theorem next0_g {ea : Addr} {z : List UInt8} (R : Rdr ea z) (i : Nat) (s : R.St i) (hi : i + 5 ≤ z.length) (hzl : z.length ≤ 1099511627776) (m : Nat) (hm : m < 65536) (hz5 : (z.drop i).take 5 = [0, toU8 (m : Int), toU8 ((m : Int) / 2 ^ 8), ~~~ toU8 (m : Int), ~~~ toU8 ((m : Int) / 2 ^ 8)]) (bg : Nat) (ch c2 c3 : Value) (g : World) (Fr : HL) :
    Gives Tryz.prog 133 #[pt bg 0] g ((bg, oC [.iface R.t R.v, ch, c2, c3, .int .i64 0, .bool false, .nilIface] 171) :: (R.heap i s ++ (eofB ea :: Fr))) (R.St (i + 5)) (fun _ => .nilIface)
      (fun s => (bg, oC [.iface R.t R.v, ch, c2, c3, .int .i64 (m : Int), .bool false, .nilIface] 171) :: (R.heap (i + 5) s ++ (eofB ea :: Fr))) := by
  refine Gives.enter Tryz.func133 rfl Tryz.ntmps133 rfl ?_
  refine TC.seq ?_
  refine TC.region ?_
  refine TL.val (Yl.assign rfl) rfl ?_
  refine TL.next ?_
  refine TC.seq ?_
  refine TC.seq ?_
  refine TC.region ?_
  refine TL.val (Yl.move rfl) rfl ?_
  refine TL.val (Yl.nilCheckP rfl) rfl ?_
  refine TL.val (Yl.fieldAddr (k := 4) (m := 5) (o := 5) Tryz.underlying171 rfl sz4 rfl rfl) rfl ?_
  refine TL.val (Yl.load1 (v := .bool false) Tryz.underlying4 rfl rfl (by repeat (first | exact Foc.head | apply Foc.tail | apply Foc.right)) rfl) rfl ?_
  refine TL.val (Yl.not (b := false) rfl) rfl ?_
  refine TL.next ?_
  refine TC.yes rfl ?_
  refine TC.seq ?_
  refine TC.region ?_
  refine TL.val (Yl.move rfl) rfl ?_
  refine TL.call (Cll.func (xs := [_, _]) (vs := [_, _]) Tryz.func50 rfl (by kernel_rfl) ⟨rfl, rfl, trivial⟩) rfl (take_g R i s 5 (by decide) (by decide) hi hzl bg _ g Fr) fun q => ?_
  rw [hz5]
  refine TL.val (Yl.move rfl) rfl ?_
  refine TL.val (Yl.extract rfl rfl) rfl ?_
  refine TL.val (Yl.extract rfl rfl) rfl ?_
  refine TL.val (Yl.assign rfl) rfl ?_
  refine TL.val (Yl.assign rfl) rfl ?_
  refine TL.next ?_
  refine TC.seq ?_
  refine TC.seq ?_
  refine TC.region ?_
  refine TL.val (Yl.move rfl) rfl ?_
  refine TL.val (Yl.neqNilN Tryz.underlying58 rfl rfl) rfl ?_
  refine TL.next ?_
  refine TC.no rfl ?_
  refine TC.skip_next ?_
  refine TC.seq ?_
  refine TC.draws [] _ mixed (by kernel_rfl) rfl (fun _ h => h) ?_
  refine TA.pure 0 rfl (by kernel_rfl) (Yl.move rfl) rfl ?_
  refine TA.pure 1 rfl (by kernel_rfl) (Yl.idxAddrS (j := 1) (o := 1) Tryz.underlying40 sz5 rfl rfl rfl (Nat.le_of_ble_eq_true rfl) rfl) rfl ?_
  refine TA.load 2 rfl (by kernel_rfl) (Yl.load1 (v := .int .u8 (((toU8 (m : Int))).toNat : Int)) (off := 1) Tryz.underlying5 rfl rfl (by repeat (first | exact Foc.head | apply Foc.tail | apply Foc.right)) rfl) rfl ?_
  refine TA.pure 3 rfl (by kernel_rfl) (Yl.conv Tryz.underlying5 Tryz.underlying38 rfl (w16_u8 _)) rfl ?_
  refine TA.pure 4 rfl (by kernel_rfl) (Yl.move rfl) rfl ?_
  refine TA.pure 5 rfl (by kernel_rfl) (Yl.idxAddrS (j := 2) (o := 2) Tryz.underlying40 sz5 rfl rfl rfl (Nat.le_of_ble_eq_true rfl) rfl) rfl ?_
  refine TA.load 6 rfl (by kernel_rfl) (Yl.load1 (v := .int .u8 (((toU8 ((m : Int) / 2 ^ 8))).toNat : Int)) (off := 2) Tryz.underlying5 rfl rfl (by repeat (first | exact Foc.head | apply Foc.tail | apply Foc.right)) rfl) rfl ?_
  refine TA.pure 7 rfl (by kernel_rfl) (Yl.conv Tryz.underlying5 Tryz.underlying38 rfl (w16_u8 _)) rfl ?_
  refine TA.pure 8 rfl (by kernel_rfl) (Yl.shl16 (c := 8) rfl rfl) rfl ?_
  refine TA.pure 9 rfl (by kernel_rfl) (Yl.or16  rfl rfl) rfl ?_
  refine TA.pure 10 rfl (by kernel_rfl) (Yl.assign rfl) rfl ?_
  refine TA.next (by kernel_rfl) ?_
  refine TC.seq ?_
  refine TC.seq ?_
  refine TC.draws [] _ mixed (by kernel_rfl) rfl (fun _ h => h) ?_
  refine TA.pure 0 rfl (by kernel_rfl) (Yl.move rfl) rfl ?_
  refine TA.pure 1 rfl (by kernel_rfl) (Yl.idxAddrS (j := 0) (o := 0) Tryz.underlying40 sz5 rfl rfl rfl (Nat.le_of_ble_eq_true rfl) rfl) rfl ?_
  refine TA.load 2 rfl (by kernel_rfl) (Yl.load1 (v := .int .u8 (((0 : UInt8)).toNat : Int)) (off := 0) Tryz.underlying5 rfl rfl (by repeat (first | exact Foc.head | apply Foc.tail | apply Foc.right)) rfl) rfl ?_
  refine TA.pure 3 rfl (by kernel_rfl) (Yl.and8 (a := 0) (b := 6) rfl rfl) rfl ?_
  refine TA.pure 4 rfl (by kernel_rfl) (Yl.neq (b := false) rfl rfl rfl) rfl ?_
  refine TA.pure 5 rfl (by kernel_rfl) (Yl.move rfl) rfl ?_
  refine TA.pureG 6 rfl (by kernel_rfl) rfl rfl rfl (Yl.move rfl) rfl ?_
  refine TA.pureG 7 rfl (by kernel_rfl) rfl rfl rfl (Yl.move rfl) rfl ?_
  refine TA.pureG 8 rfl (by kernel_rfl) rfl rfl rfl (Yl.idxAddrS (j := 3) (o := 3) Tryz.underlying40 sz5 rfl rfl rfl (Nat.le_of_ble_eq_true rfl) rfl) rfl ?_
  refine TA.loadG 9 rfl (by kernel_rfl) rfl rfl rfl (Yl.load1 (v := .int .u8 (((~~~ toU8 (m : Int))).toNat : Int)) (off := 3) Tryz.underlying5 rfl rfl (by repeat (first | exact Foc.head | apply Foc.tail | apply Foc.right)) rfl) rfl ?_
  refine TA.pureG 10 rfl (by kernel_rfl) rfl rfl rfl (Yl.conv Tryz.underlying5 Tryz.underlying38 rfl (w16_u8 _)) rfl ?_
  refine TA.pureG 11 rfl (by kernel_rfl) rfl rfl rfl (Yl.move rfl) rfl ?_
  refine TA.pureG 12 rfl (by kernel_rfl) rfl rfl rfl (Yl.idxAddrS (j := 4) (o := 4) Tryz.underlying40 sz5 rfl rfl rfl (Nat.le_of_ble_eq_true rfl) rfl) rfl ?_
  refine TA.loadG 13 rfl (by kernel_rfl) rfl rfl rfl (Yl.load1 (v := .int .u8 (((~~~ toU8 ((m : Int) / 2 ^ 8))).toNat : Int)) (off := 4) Tryz.underlying5 rfl rfl (by repeat (first | exact Foc.head | apply Foc.tail | apply Foc.right)) rfl) rfl ?_
  refine TA.pureG 14 rfl (by kernel_rfl) rfl rfl rfl (Yl.conv Tryz.underlying5 Tryz.underlying38 rfl (w16_u8 _)) rfl ?_
  refine TA.pureG 15 rfl (by kernel_rfl) rfl rfl rfl (Yl.shl16 (c := 8) rfl rfl) rfl ?_
  refine TA.pureG 16 rfl (by kernel_rfl) rfl rfl rfl (Yl.or16  rfl rfl) rfl ?_
  refine TA.pureG 17 rfl (by kernel_rfl) rfl rfl rfl (Yl.not16 rfl) rfl ?_
  refine TA.pureG 18 rfl (by kernel_rfl) rfl rfl rfl (Yl.neq16 rfl rfl (decide_eq_false (fun h => h (twice _ _).symm))) rfl ?_
  refine TA.pure 19 rfl (by kernel_rfl) (Yl.pickF rfl rfl) rfl ?_
  refine TA.next (by kernel_rfl) ?_
  refine TC.no rfl ?_
  refine TC.skip_next ?_
  refine TC.seq ?_
  refine TC.region ?_
  refine TL.val (Yl.move rfl) rfl ?_
  refine TL.val (Yl.move rfl) rfl ?_
  refine TL.val (Yl.move rfl) rfl ?_
  refine TL.val (Yl.idxAddrS (j := 0) (o := 0) Tryz.underlying40 sz5 rfl rfl rfl (Nat.le_of_ble_eq_true rfl) rfl) rfl ?_
  refine TL.val (Yl.load1 (v := .int .u8 (((0 : UInt8)).toNat : Int)) (off := 0) Tryz.underlying5 rfl rfl (by repeat (first | exact Foc.head | apply Foc.tail | apply Foc.right)) rfl) rfl ?_
  refine TL.val (Yl.and8 (a := 0) (b := 1) rfl rfl) rfl ?_
  refine TL.val (Yl.neq (b := false) rfl rfl rfl) rfl ?_
  refine TL.val (Yl.move rfl) rfl ?_
  refine TL.val (Yl.conv (r := (m : Int)) Tryz.underlying38 Tryz.underlying3 rfl ((wI_u16 _).trans (congrArg Nat.cast (gz_len m hm)))) rfl ?_
  refine TL.val (Yl.nilCheckP rfl) rfl ?_
  refine TL.val (Yl.fieldAddr (k := 4) (m := 5) (o := 5) Tryz.underlying171 rfl sz4 rfl rfl) rfl ?_
  refine TL.skp (Skp.store1 (cs' := [.iface R.t R.v, ch, c2, c3, .int .i64 0, .bool false, .nilIface]) sz4 rfl rfl rfl (by repeat (first | exact Foc.head | apply Foc.tail | apply Foc.right)) (Nat.le_of_ble_eq_true rfl) rfl) ?_
  refine TL.val (Yl.nilCheckP rfl) rfl ?_
  refine TL.val (Yl.fieldAddr (k := 3) (m := 4) (o := 4) Tryz.underlying171 rfl sz3 rfl rfl) rfl ?_
  refine TL.skp (Skp.store1 (cs' := [.iface R.t R.v, ch, c2, c3, .int .i64 (m : Int), .bool false, .nilIface]) sz3 rfl rfl rfl (by repeat (first | exact Foc.head | apply Foc.tail | apply Foc.right)) (Nat.le_of_ble_eq_true rfl) rfl) ?_
  refine TL.next ?_
  refine TC.seq ?_
  refine TC.region ?_
  refine TL.val (Yl.assign rfl) rfl ?_
  refine TL.next ?_
  exact TC.back1 q.2 rfl rfl (fun _ h => h.sub (by repeat (first | exact List.Sublist.refl _ | exact List.sublist_append_right _ _ | refine List.Sublist.cons_cons _ ?_ | refine List.Sublist.cons _ ?_)))
theorem next1_g {ea : Addr} {z : List UInt8} (R : Rdr ea z) (i : Nat) (s : R.St i) (hi : i + 5 ≤ z.length) (hzl : z.length ≤ 1099511627776) (m : Nat) (hm : m < 65536) (hz5 : (z.drop i).take 5 = [1, toU8 (m : Int), toU8 ((m : Int) / 2 ^ 8), ~~~ toU8 (m : Int), ~~~ toU8 ((m : Int) / 2 ^ 8)]) (bg : Nat) (ch c2 c3 : Value) (g : World) (Fr : HL) :
    Gives Tryz.prog 133 #[pt bg 0] g ((bg, oC [.iface R.t R.v, ch, c2, c3, .int .i64 0, .bool false, .nilIface] 171) :: (R.heap i s ++ (eofB ea :: Fr))) (R.St (i + 5)) (fun _ => .nilIface)
      (fun s => (bg, oC [.iface R.t R.v, ch, c2, c3, .int .i64 (m : Int), .bool true, .nilIface] 171) :: (R.heap (i + 5) s ++ (eofB ea :: Fr))) := by
  refine Gives.enter Tryz.func133 rfl Tryz.ntmps133 rfl ?_
  refine TC.seq ?_
  refine TC.region ?_
  refine TL.val (Yl.assign rfl) rfl ?_
  refine TL.next ?_
  refine TC.seq ?_
  refine TC.seq ?_
  refine TC.region ?_
  refine TL.val (Yl.move rfl) rfl ?_
  refine TL.val (Yl.nilCheckP rfl) rfl ?_
  refine TL.val (Yl.fieldAddr (k := 4) (m := 5) (o := 5) Tryz.underlying171 rfl sz4 rfl rfl) rfl ?_
  refine TL.val (Yl.load1 (v := .bool false) Tryz.underlying4 rfl rfl (by repeat (first | exact Foc.head | apply Foc.tail | apply Foc.right)) rfl) rfl ?_
  refine TL.val (Yl.not (b := false) rfl) rfl ?_
  refine TL.next ?_
  refine TC.yes rfl ?_
  refine TC.seq ?_
  refine TC.region ?_
  refine TL.val (Yl.move rfl) rfl ?_
  refine TL.call (Cll.func (xs := [_, _]) (vs := [_, _]) Tryz.func50 rfl (by kernel_rfl) ⟨rfl, rfl, trivial⟩) rfl (take_g R i s 5 (by decide) (by decide) hi hzl bg _ g Fr) fun q => ?_
  rw [hz5]
  refine TL.val (Yl.move rfl) rfl ?_
  refine TL.val (Yl.extract rfl rfl) rfl ?_
  refine TL.val (Yl.extract rfl rfl) rfl ?_
  refine TL.val (Yl.assign rfl) rfl ?_
  refine TL.val (Yl.assign rfl) rfl ?_
  refine TL.next ?_
  refine TC.seq ?_
  refine TC.seq ?_
  refine TC.region ?_
  refine TL.val (Yl.move rfl) rfl ?_
  refine TL.val (Yl.neqNilN Tryz.underlying58 rfl rfl) rfl ?_
  refine TL.next ?_
  refine TC.no rfl ?_
  refine TC.skip_next ?_
  refine TC.seq ?_
  refine TC.draws [] _ mixed (by kernel_rfl) rfl (fun _ h => h) ?_
  refine TA.pure 0 rfl (by kernel_rfl) (Yl.move rfl) rfl ?_
  refine TA.pure 1 rfl (by kernel_rfl) (Yl.idxAddrS (j := 1) (o := 1) Tryz.underlying40 sz5 rfl rfl rfl (Nat.le_of_ble_eq_true rfl) rfl) rfl ?_
  refine TA.load 2 rfl (by kernel_rfl) (Yl.load1 (v := .int .u8 (((toU8 (m : Int))).toNat : Int)) (off := 1) Tryz.underlying5 rfl rfl (by repeat (first | exact Foc.head | apply Foc.tail | apply Foc.right)) rfl) rfl ?_
  refine TA.pure 3 rfl (by kernel_rfl) (Yl.conv Tryz.underlying5 Tryz.underlying38 rfl (w16_u8 _)) rfl ?_
  refine TA.pure 4 rfl (by kernel_rfl) (Yl.move rfl) rfl ?_
  refine TA.pure 5 rfl (by kernel_rfl) (Yl.idxAddrS (j := 2) (o := 2) Tryz.underlying40 sz5 rfl rfl rfl (Nat.le_of_ble_eq_true rfl) rfl) rfl ?_
  refine TA.load 6 rfl (by kernel_rfl) (Yl.load1 (v := .int .u8 (((toU8 ((m : Int) / 2 ^ 8))).toNat : Int)) (off := 2) Tryz.underlying5 rfl rfl (by repeat (first | exact Foc.head | apply Foc.tail | apply Foc.right)) rfl) rfl ?_
  refine TA.pure 7 rfl (by kernel_rfl) (Yl.conv Tryz.underlying5 Tryz.underlying38 rfl (w16_u8 _)) rfl ?_
  refine TA.pure 8 rfl (by kernel_rfl) (Yl.shl16 (c := 8) rfl rfl) rfl ?_
  refine TA.pure 9 rfl (by kernel_rfl) (Yl.or16  rfl rfl) rfl ?_
  refine TA.pure 10 rfl (by kernel_rfl) (Yl.assign rfl) rfl ?_
  refine TA.next (by kernel_rfl) ?_
  refine TC.seq ?_
  refine TC.seq ?_
  refine TC.draws [] _ mixed (by kernel_rfl) rfl (fun _ h => h) ?_
  refine TA.pure 0 rfl (by kernel_rfl) (Yl.move rfl) rfl ?_
  refine TA.pure 1 rfl (by kernel_rfl) (Yl.idxAddrS (j := 0) (o := 0) Tryz.underlying40 sz5 rfl rfl rfl (Nat.le_of_ble_eq_true rfl) rfl) rfl ?_
  refine TA.load 2 rfl (by kernel_rfl) (Yl.load1 (v := .int .u8 (((1 : UInt8)).toNat : Int)) (off := 0) Tryz.underlying5 rfl rfl (by repeat (first | exact Foc.head | apply Foc.tail | apply Foc.right)) rfl) rfl ?_
  refine TA.pure 3 rfl (by kernel_rfl) (Yl.and8 (a := 1) (b := 6) rfl rfl) rfl ?_
  refine TA.pure 4 rfl (by kernel_rfl) (Yl.neq (b := false) rfl rfl rfl) rfl ?_
  refine TA.pure 5 rfl (by kernel_rfl) (Yl.move rfl) rfl ?_
  refine TA.pureG 6 rfl (by kernel_rfl) rfl rfl rfl (Yl.move rfl) rfl ?_
  refine TA.pureG 7 rfl (by kernel_rfl) rfl rfl rfl (Yl.move rfl) rfl ?_
  refine TA.pureG 8 rfl (by kernel_rfl) rfl rfl rfl (Yl.idxAddrS (j := 3) (o := 3) Tryz.underlying40 sz5 rfl rfl rfl (Nat.le_of_ble_eq_true rfl) rfl) rfl ?_
  refine TA.loadG 9 rfl (by kernel_rfl) rfl rfl rfl (Yl.load1 (v := .int .u8 (((~~~ toU8 (m : Int))).toNat : Int)) (off := 3) Tryz.underlying5 rfl rfl (by repeat (first | exact Foc.head | apply Foc.tail | apply Foc.right)) rfl) rfl ?_
  refine TA.pureG 10 rfl (by kernel_rfl) rfl rfl rfl (Yl.conv Tryz.underlying5 Tryz.underlying38 rfl (w16_u8 _)) rfl ?_
  refine TA.pureG 11 rfl (by kernel_rfl) rfl rfl rfl (Yl.move rfl) rfl ?_
  refine TA.pureG 12 rfl (by kernel_rfl) rfl rfl rfl (Yl.idxAddrS (j := 4) (o := 4) Tryz.underlying40 sz5 rfl rfl rfl (Nat.le_of_ble_eq_true rfl) rfl) rfl ?_
  refine TA.loadG 13 rfl (by kernel_rfl) rfl rfl rfl (Yl.load1 (v := .int .u8 (((~~~ toU8 ((m : Int) / 2 ^ 8))).toNat : Int)) (off := 4) Tryz.underlying5 rfl rfl (by repeat (first | exact Foc.head | apply Foc.tail | apply Foc.right)) rfl) rfl ?_
  refine TA.pureG 14 rfl (by kernel_rfl) rfl rfl rfl (Yl.conv Tryz.underlying5 Tryz.underlying38 rfl (w16_u8 _)) rfl ?_
  refine TA.pureG 15 rfl (by kernel_rfl) rfl rfl rfl (Yl.shl16 (c := 8) rfl rfl) rfl ?_
  refine TA.pureG 16 rfl (by kernel_rfl) rfl rfl rfl (Yl.or16  rfl rfl) rfl ?_
  refine TA.pureG 17 rfl (by kernel_rfl) rfl rfl rfl (Yl.not16 rfl) rfl ?_
  refine TA.pureG 18 rfl (by kernel_rfl) rfl rfl rfl (Yl.neq16 rfl rfl (decide_eq_false (fun h => h (twice _ _).symm))) rfl ?_
  refine TA.pure 19 rfl (by kernel_rfl) (Yl.pickF rfl rfl) rfl ?_
  refine TA.next (by kernel_rfl) ?_
  refine TC.no rfl ?_
  refine TC.skip_next ?_
  refine TC.seq ?_
  refine TC.region ?_
  refine TL.val (Yl.move rfl) rfl ?_
  refine TL.val (Yl.move rfl) rfl ?_
  refine TL.val (Yl.move rfl) rfl ?_
  refine TL.val (Yl.idxAddrS (j := 0) (o := 0) Tryz.underlying40 sz5 rfl rfl rfl (Nat.le_of_ble_eq_true rfl) rfl) rfl ?_
  refine TL.val (Yl.load1 (v := .int .u8 (((1 : UInt8)).toNat : Int)) (off := 0) Tryz.underlying5 rfl rfl (by repeat (first | exact Foc.head | apply Foc.tail | apply Foc.right)) rfl) rfl ?_
  refine TL.val (Yl.and8 (a := 1) (b := 1) rfl rfl) rfl ?_
  refine TL.val (Yl.neq (b := true) rfl rfl rfl) rfl ?_
  refine TL.val (Yl.move rfl) rfl ?_
  refine TL.val (Yl.conv (r := (m : Int)) Tryz.underlying38 Tryz.underlying3 rfl ((wI_u16 _).trans (congrArg Nat.cast (gz_len m hm)))) rfl ?_
  refine TL.val (Yl.nilCheckP rfl) rfl ?_
  refine TL.val (Yl.fieldAddr (k := 4) (m := 5) (o := 5) Tryz.underlying171 rfl sz4 rfl rfl) rfl ?_
  refine TL.skp (Skp.store1 (cs' := [.iface R.t R.v, ch, c2, c3, .int .i64 0, .bool true, .nilIface]) sz4 rfl rfl rfl (by repeat (first | exact Foc.head | apply Foc.tail | apply Foc.right)) (Nat.le_of_ble_eq_true rfl) rfl) ?_
  refine TL.val (Yl.nilCheckP rfl) rfl ?_
  refine TL.val (Yl.fieldAddr (k := 3) (m := 4) (o := 4) Tryz.underlying171 rfl sz3 rfl rfl) rfl ?_
  refine TL.skp (Skp.store1 (cs' := [.iface R.t R.v, ch, c2, c3, .int .i64 (m : Int), .bool true, .nilIface]) sz3 rfl rfl rfl (by repeat (first | exact Foc.head | apply Foc.tail | apply Foc.right)) (Nat.le_of_ble_eq_true rfl) rfl) ?_
  refine TL.next ?_
  refine TC.seq ?_
  refine TC.region ?_
  refine TL.val (Yl.assign rfl) rfl ?_
  refine TL.next ?_
  exact TC.back1 q.2 rfl rfl (fun _ h => h.sub (by repeat (first | exact List.Sublist.refl _ | exact List.sublist_append_right _ _ | refine List.Sublist.cons_cons _ ?_ | refine List.Sublist.cons _ ?_)))
theorem nextEnd_g {ea : Addr} {z : List UInt8} (R : Rdr ea z) (d : List UInt8) (i : Nat) (s : R.St i) (hi : i + 8 = z.length) (hzl : z.length ≤ 1099511627776) (hz8 : (z.drop i).take 8 = gzEnd d) (bg : Nat) (ch : Value) (g : World) (Fr : HL) :
    Gives Tryz.prog 133 #[pt bg 0] g ((bg, oC [.iface R.t R.v, ch, .int .u32 (crcN d).toNat, .int .u32 (toU32 (d.length : Int)).toNat, .int .i64 0, .bool true, .nilIface] 171) :: (R.heap i s ++ (eofB ea :: Fr))) (R.St z.length) (fun _ => eofV ea)
      (fun s => (bg, oC [.iface R.t R.v, ch, .int .u32 (crcN d).toNat, .int .u32 (toU32 (d.length : Int)).toNat, .int .i64 0, .bool true, .nilIface] 171) :: (R.heap z.length s ++ (eofB ea :: Fr))) := by
  refine Gives.enter Tryz.func133 rfl Tryz.ntmps133 rfl ?_
  refine TC.seq ?_
  refine TC.region ?_
  refine TL.val (Yl.assign rfl) rfl ?_
  refine TL.next ?_
  refine TC.seq ?_
  refine TC.seq ?_
  refine TC.region ?_
  refine TL.val (Yl.move rfl) rfl ?_
  refine TL.val (Yl.nilCheckP rfl) rfl ?_
  refine TL.val (Yl.fieldAddr (k := 4) (m := 5) (o := 5) Tryz.underlying171 rfl sz4 rfl rfl) rfl ?_
  refine TL.val (Yl.load1 (v := .bool true) Tryz.underlying4 rfl rfl (by repeat (first | exact Foc.head | apply Foc.tail | apply Foc.right)) rfl) rfl ?_
  refine TL.val (Yl.not (b := true) rfl) rfl ?_
  refine TL.next ?_
  refine TC.no rfl ?_
  refine TC.skip_next ?_
  refine TC.seq ?_
  refine TC.region ?_
  refine TL.val (Yl.move rfl) rfl ?_
  refine TL.call (Cll.func (xs := [_, _]) (vs := [_, _]) Tryz.func50 rfl (by kernel_rfl) ⟨rfl, rfl, trivial⟩) rfl (take_g R i s 8 (by decide) (by decide) (by omega) hzl bg _ g Fr) fun q => ?_
  rw [hz8]
  refine TL.val (Yl.move rfl) rfl ?_
  refine TL.val (Yl.extract rfl rfl) rfl ?_
  refine TL.val (Yl.extract rfl rfl) rfl ?_
  refine TL.val (Yl.assign rfl) rfl ?_
  refine TL.val (Yl.assign rfl) rfl ?_
  refine TL.next ?_
  refine TC.seq ?_
  refine TC.seq ?_
  refine TC.region ?_
  refine TL.val (Yl.move rfl) rfl ?_
  refine TL.val (Yl.neqNilN Tryz.underlying58 rfl rfl) rfl ?_
  refine TL.next ?_
  refine TC.no rfl ?_
  refine TC.skip_next ?_
  refine TC.seq ?_
  refine TC.draws [] _ mixed (by kernel_rfl) rfl (fun _ h => h) ?_
  refine TA.pure 0 rfl (by kernel_rfl) (Yl.move rfl) rfl ?_
  refine TA.pure 1 rfl (by kernel_rfl) (Yl.idxAddrS (j := 0) (o := 0) Tryz.underlying40 sz5 rfl rfl rfl (Nat.le_of_ble_eq_true rfl) rfl) rfl ?_
  refine TA.load 2 rfl (by kernel_rfl) (Yl.load1 (v := .int .u8 (((crcN d).toUInt8).toNat : Int)) (off := 0) Tryz.underlying5 rfl rfl (by repeat (first | exact Foc.head | apply Foc.tail | apply Foc.right)) rfl) rfl ?_
  refine TA.pure 3 rfl (by kernel_rfl) (Yl.conv Tryz.underlying5 Tryz.underlying42 rfl (w32_u8 _)) rfl ?_
  refine TA.pure 4 rfl (by kernel_rfl) (Yl.move rfl) rfl ?_
  refine TA.pure 5 rfl (by kernel_rfl) (Yl.idxAddrS (j := 1) (o := 1) Tryz.underlying40 sz5 rfl rfl rfl (Nat.le_of_ble_eq_true rfl) rfl) rfl ?_
  refine TA.load 6 rfl (by kernel_rfl) (Yl.load1 (v := .int .u8 (((shr32 (crcN d) 8).toUInt8).toNat : Int)) (off := 1) Tryz.underlying5 rfl rfl (by repeat (first | exact Foc.head | apply Foc.tail | apply Foc.right)) rfl) rfl ?_
  refine TA.pure 7 rfl (by kernel_rfl) (Yl.conv Tryz.underlying5 Tryz.underlying42 rfl (w32_u8 _)) rfl ?_
  refine TA.pure 8 rfl (by kernel_rfl) (Yl.shl32 (c := 8) rfl rfl) rfl ?_
  refine TA.pure 9 rfl (by kernel_rfl) (Yl.or32  rfl rfl) rfl ?_
  refine TA.pure 10 rfl (by kernel_rfl) (Yl.move rfl) rfl ?_
  refine TA.pure 11 rfl (by kernel_rfl) (Yl.idxAddrS (j := 2) (o := 2) Tryz.underlying40 sz5 rfl rfl rfl (Nat.le_of_ble_eq_true rfl) rfl) rfl ?_
  refine TA.load 12 rfl (by kernel_rfl) (Yl.load1 (v := .int .u8 (((shr32 (crcN d) 16).toUInt8).toNat : Int)) (off := 2) Tryz.underlying5 rfl rfl (by repeat (first | exact Foc.head | apply Foc.tail | apply Foc.right)) rfl) rfl ?_
  refine TA.pure 13 rfl (by kernel_rfl) (Yl.conv Tryz.underlying5 Tryz.underlying42 rfl (w32_u8 _)) rfl ?_
  refine TA.pure 14 rfl (by kernel_rfl) (Yl.shl32 (c := 16) rfl rfl) rfl ?_
  refine TA.pure 15 rfl (by kernel_rfl) (Yl.or32  rfl rfl) rfl ?_
  refine TA.pure 16 rfl (by kernel_rfl) (Yl.move rfl) rfl ?_
  refine TA.pure 17 rfl (by kernel_rfl) (Yl.idxAddrS (j := 3) (o := 3) Tryz.underlying40 sz5 rfl rfl rfl (Nat.le_of_ble_eq_true rfl) rfl) rfl ?_
  refine TA.load 18 rfl (by kernel_rfl) (Yl.load1 (v := .int .u8 (((shr32 (crcN d) 24).toUInt8).toNat : Int)) (off := 3) Tryz.underlying5 rfl rfl (by repeat (first | exact Foc.head | apply Foc.tail | apply Foc.right)) rfl) rfl ?_
  refine TA.pure 19 rfl (by kernel_rfl) (Yl.conv Tryz.underlying5 Tryz.underlying42 rfl (w32_u8 _)) rfl ?_
  refine TA.pure 20 rfl (by kernel_rfl) (Yl.shl32 (c := 24) rfl rfl) rfl ?_
  refine TA.pure 21 rfl (by kernel_rfl) (Yl.or32  rfl rfl) rfl ?_
  refine TA.pure 22 rfl (by kernel_rfl) (Yl.assign rfl) rfl ?_
  refine TA.next (by kernel_rfl) ?_
  refine TC.seq ?_
  refine TC.draws [] _ mixed (by kernel_rfl) rfl (fun _ h => h) ?_
  refine TA.pure 0 rfl (by kernel_rfl) (Yl.move rfl) rfl ?_
  refine TA.pure 1 rfl (by kernel_rfl) (Yl.idxAddrS (j := 4) (o := 4) Tryz.underlying40 sz5 rfl rfl rfl (Nat.le_of_ble_eq_true rfl) rfl) rfl ?_
  refine TA.load 2 rfl (by kernel_rfl) (Yl.load1 (v := .int .u8 (((toU32 (d.length : Int)).toUInt8).toNat : Int)) (off := 4) Tryz.underlying5 rfl rfl (by repeat (first | exact Foc.head | apply Foc.tail | apply Foc.right)) rfl) rfl ?_
  refine TA.pure 3 rfl (by kernel_rfl) (Yl.conv Tryz.underlying5 Tryz.underlying42 rfl (w32_u8 _)) rfl ?_
  refine TA.pure 4 rfl (by kernel_rfl) (Yl.move rfl) rfl ?_
  refine TA.pure 5 rfl (by kernel_rfl) (Yl.idxAddrS (j := 5) (o := 5) Tryz.underlying40 sz5 rfl rfl rfl (Nat.le_of_ble_eq_true rfl) rfl) rfl ?_
  refine TA.load 6 rfl (by kernel_rfl) (Yl.load1 (v := .int .u8 (((shr32 (toU32 (d.length : Int)) 8).toUInt8).toNat : Int)) (off := 5) Tryz.underlying5 rfl rfl (by repeat (first | exact Foc.head | apply Foc.tail | apply Foc.right)) rfl) rfl ?_
  refine TA.pure 7 rfl (by kernel_rfl) (Yl.conv Tryz.underlying5 Tryz.underlying42 rfl (w32_u8 _)) rfl ?_
  refine TA.pure 8 rfl (by kernel_rfl) (Yl.shl32 (c := 8) rfl rfl) rfl ?_
  refine TA.pure 9 rfl (by kernel_rfl) (Yl.or32  rfl rfl) rfl ?_
  refine TA.pure 10 rfl (by kernel_rfl) (Yl.move rfl) rfl ?_
  refine TA.pure 11 rfl (by kernel_rfl) (Yl.idxAddrS (j := 6) (o := 6) Tryz.underlying40 sz5 rfl rfl rfl (Nat.le_of_ble_eq_true rfl) rfl) rfl ?_
  refine TA.load 12 rfl (by kernel_rfl) (Yl.load1 (v := .int .u8 (((shr32 (toU32 (d.length : Int)) 16).toUInt8).toNat : Int)) (off := 6) Tryz.underlying5 rfl rfl (by repeat (first | exact Foc.head | apply Foc.tail | apply Foc.right)) rfl) rfl ?_
  refine TA.pure 13 rfl (by kernel_rfl) (Yl.conv Tryz.underlying5 Tryz.underlying42 rfl (w32_u8 _)) rfl ?_
  refine TA.pure 14 rfl (by kernel_rfl) (Yl.shl32 (c := 16) rfl rfl) rfl ?_
  refine TA.pure 15 rfl (by kernel_rfl) (Yl.or32  rfl rfl) rfl ?_
  refine TA.pure 16 rfl (by kernel_rfl) (Yl.move rfl) rfl ?_
  refine TA.pure 17 rfl (by kernel_rfl) (Yl.idxAddrS (j := 7) (o := 7) Tryz.underlying40 sz5 rfl rfl rfl (Nat.le_of_ble_eq_true rfl) rfl) rfl ?_
  refine TA.load 18 rfl (by kernel_rfl) (Yl.load1 (v := .int .u8 (((shr32 (toU32 (d.length : Int)) 24).toUInt8).toNat : Int)) (off := 7) Tryz.underlying5 rfl rfl (by repeat (first | exact Foc.head | apply Foc.tail | apply Foc.right)) rfl) rfl ?_
  refine TA.pure 19 rfl (by kernel_rfl) (Yl.conv Tryz.underlying5 Tryz.underlying42 rfl (w32_u8 _)) rfl ?_
  refine TA.pure 20 rfl (by kernel_rfl) (Yl.shl32 (c := 24) rfl rfl) rfl ?_
  refine TA.pure 21 rfl (by kernel_rfl) (Yl.or32  rfl rfl) rfl ?_
  refine TA.pure 22 rfl (by kernel_rfl) (Yl.assign rfl) rfl ?_
  refine TA.next (by kernel_rfl) ?_
  refine TC.seq ?_
  refine TC.seq ?_
  refine TC.region ?_
  refine TL.val (Yl.move rfl) rfl ?_
  refine TL.val (Yl.move rfl) rfl ?_
  refine TL.val (Yl.nilCheckP rfl) rfl ?_
  refine TL.val (Yl.fieldAddr (k := 42) (m := 2) (o := 2) Tryz.underlying171 rfl sz42 rfl rfl) rfl ?_
  refine TL.val (Yl.load1 (v := .int .u32 ((crcN d).toNat : Int)) Tryz.underlying42 rfl rfl (by repeat (first | exact Foc.head | apply Foc.tail | apply Foc.right)) rfl) rfl ?_
  refine TL.val (Yl.neq32 rfl rfl (decide_eq_false (fun h => h (or32 _)))) rfl ?_
  refine TL.val (Yl.move rfl) rfl ?_
  refine TL.yes rfl rfl rfl ?_
  refine TL.val (Yl.move rfl) rfl ?_
  refine TL.yes rfl rfl rfl ?_
  refine TL.val (Yl.move rfl) rfl ?_
  refine TL.yes rfl rfl rfl ?_
  refine TL.val (Yl.nilCheckP rfl) rfl ?_
  refine TL.yes rfl rfl rfl ?_
  refine TL.val (Yl.fieldAddr (k := 42) (m := 3) (o := 3) Tryz.underlying171 rfl sz42 rfl rfl) rfl ?_
  refine TL.yes rfl rfl rfl ?_
  refine TL.val (Yl.load1 (v := .int .u32 ((toU32 (d.length : Int)).toNat : Int)) Tryz.underlying42 rfl rfl (by repeat (first | exact Foc.head | apply Foc.tail | apply Foc.right)) rfl) rfl ?_
  refine TL.yes rfl rfl rfl ?_
  refine TL.val (Yl.neq32 rfl rfl (decide_eq_false (fun h => h (or32 _)))) rfl ?_
  refine TL.val (Yl.pickF rfl rfl) rfl ?_
  refine TL.next ?_
  refine TC.no rfl ?_
  refine TC.skip_next ?_
  refine TC.seq ?_
  refine TC.region ?_
  refine TL.val (Yl.move rfl) rfl ?_
  refine TL.call (Cll.func (xs := [_]) (vs := [_]) Tryz.func44 rfl (by kernel_rfl) ⟨rfl, trivial⟩) rfl (Gives.of (fun _ h => by rw [heap_cast R hi]; exact h.sub (.cons_cons _ (.cons _ (.refl _)))) (headerEof_g R (hi ▸ q.2) bg ch .nilIface (crcN d).toNat (toU32 (d.length : Int)).toNat 0 true g Fr)) fun q2 => ?_
  refine TL.val (Yl.assign rfl) rfl ?_
  refine TL.next ?_
  exact TC.back1 q2 rfl rfl (fun _ h => h)
end Go.Proofs.YtlhncphipfkkjaaGreatDoor

namespace Go.Proofs.YtlhncphipfkkjaaGreatDoor
open Go
def gzE {ea : Addr} {z : List UInt8} (R : Rdr ea z) (d : List UInt8) : List Value := [.iface R.t R.v, .slice none 0 0, .int .u32 (crcN d).toNat, .int .u32 (toU32 (d.length : Int)).toNat, .int .i64 0, .bool true, eofV ea]
theorem gzC_end {ea : Addr} {z : List UInt8} (R : Rdr ea z) (d : List UInt8) : gzC R d d.length 0 true false = [.iface R.t R.v, .slice none 0 0, .int .u32 (crcN d).toNat, .int .u32 (toU32 (d.length : Int)).toNat, .int .i64 0, .bool true, .nilIface] := by
  unfold gzC; rw [List.take_length]; rfl
theorem gzE_end {ea : Addr} {z : List UInt8} (R : Rdr ea z) (d : List UInt8) : gzE R d = gzC R d d.length 0 true true := by
  unfold gzC gzE; rw [List.take_length]; rfl
theorem gzRead_g {ea : Addr} {z : List UInt8} (R : Rdr ea z) (d : List UInt8) (c n : Nat) (hc : 0 < c) (hcm : c ≤ 60000) (hzl : z.length ≤ 1099511627776) (hdl : d.length ≤ 1099511627776) (hn : n < d.length) (st : GzSt R d c n) (te : TypeId) (l : List UInt8) (bp off m cap : Nat) (hm : 0 < m) (hcap : m ≤ cap) (hle : off + m ≤ l.length) (bg : Nat) (g : World) (Fr : HL) :
    Gives Tryz.prog 132 #[pt bg 0, sl bp off m cap] g ((bg, oC (gzC R d n st.left st.last st.ended) 171) :: (R.heap st.i st.s ++ ((bp, oC (bV l) te) :: eofB ea :: Fr))) ((k : Rk d n m) × GzSt R d c (n + k.1)) (fun q => .tuple #[.int .i64 (q.1.1 : Int), .nilIface])
      (fun q => (bg, oC (gzC R d (n + q.1.1) q.2.left q.2.last q.2.ended) 171) :: (R.heap q.2.i q.2.s ++ ((bp, oC (bV (layB l off ((d.drop n).take q.1.1))) te) :: eofB ea :: Fr))) := by
  refine Gives.enter Tryz.func132 rfl Tryz.ntmps132 rfl ?_
  refine TC.seq ?_
  refine TC.region ?_
  refine TL.val (Yl.assign rfl) rfl ?_
  refine TL.val (Yl.assign rfl) rfl ?_
  refine TL.next ?_
  refine TC.seq ?_
  refine TC.block ?_
  refine TC.loopI (σ := GzSt R d c n) (fun p => [(0, pt bg 0), (1, sl bp off m cap), (4, .int .i64 0), (5, .nilIface)]) (fun p => (bg, oC (gzC R d n p.left p.last p.ended) 171) :: (R.heap p.i p.s ++ ((bp, oC (bV l) te) :: eofB ea :: Fr))) (fun p => True) (fun p => (if p.left = 0 ∧ p.ended = false then 1 else 0)) st ⟨rfl, rfl, rfl, rfl, trivial⟩ (fun _ h => h) trivial (fun p hp => ?_)
  obtain ⟨left, i, last, ended, s, ok⟩ := p
  clear hp
  dsimp only
  have ok1 := ok.1
  have ok2 := ok.2.1
  refine TC.seq ?_
  refine TC.seq ?_
  by_cases hl : left = 0
  · subst hl
    by_cases he : ended = true
    · exfalso
      have := (ok2 he).1
      omega
    · replace he : ended = false := by cases ended <;> simp_all
      subst he
      refine TC.region ?_
      refine TL.val (Yl.move rfl) rfl ?_
      refine TL.val (Yl.nilCheckP rfl) rfl ?_
      refine TL.val (Yl.fieldAddr (k := 3) (m := 4) (o := 4) Tryz.underlying171 rfl sz3 rfl rfl) rfl ?_
      refine TL.val (Yl.load1 (v := .int .i64 0) Tryz.underlying3 rfl rfl (by repeat (first | exact Foc.head | apply Foc.tail | apply Foc.right)) rfl) rfl ?_
      refine TL.val (Yl.eql (b := true) rfl rfl rfl) rfl ?_
      refine TL.val (Yl.move rfl) rfl ?_
      refine TL.yes rfl rfl rfl ?_
      refine TL.val (Yl.move rfl) rfl ?_
      refine TL.yes rfl rfl rfl ?_
      refine TL.val (Yl.nilCheckP rfl) rfl ?_
      refine TL.yes rfl rfl rfl ?_
      refine TL.val (Yl.fieldAddr (k := 58) (m := 6) (o := 6) Tryz.underlying171 rfl sz58 rfl rfl) rfl ?_
      refine TL.yes rfl rfl rfl ?_
      refine TL.val (Yl.load1 (v := .nilIface) Tryz.underlying58 rfl rfl (by repeat (first | exact Foc.head | apply Foc.tail | apply Foc.right)) rfl) rfl ?_
      refine TL.yes rfl rfl rfl ?_
      refine TL.val (Yl.eqlNilN Tryz.underlying58 rfl rfl) rfl ?_
      refine TL.val (Yl.pickT rfl rfl) rfl ?_
      refine TL.next ?_
      refine TC.yes rfl ?_
      refine TC.skip_next ?_
      refine TC.block ?_
      by_cases hla : last = true
      · exfalso
        subst hla
        have := ok.fin.1
        omega
      · replace hla : last = false := by cases last <;> simp_all
        subst hla
        obtain ⟨lb, hz5, hi5, hm0, ok'⟩ := GzOk.next hc ok
        have hgm := gzM_le d c n
        by_cases hlb : lb = true
        · subst hlb
          refine TC.region ?_
          refine TL.val (Yl.move rfl) rfl ?_
          refine TL.val (Yl.move rfl) rfl ?_
          refine TL.call (Cll.func (xs := [_]) (vs := [_]) Tryz.func133 rfl (by kernel_rfl) ⟨rfl, trivial⟩) rfl (Gives.of (fun _ h => Own.inA (A := (bg, _) :: R.heap i s) (Pulls.perm (.cons (by repeat (first | exact Pull.head | apply Pull.tail | apply Pull.right)) (.cons (by repeat (first | exact Pull.head | apply Pull.tail | apply Pull.right)) .nil))) h) (next1_g R i s hi5 hzl (gzM d c n) (by omega) hz5 bg (.slice none 0 0) _ _ g ((bp, oC (bV l) te) :: Fr))) fun s2 => ?_
          refine TL.val (Yl.nilCheckP rfl) rfl ?_
          refine TL.val (Yl.fieldAddr (k := 58) (m := 6) (o := 6) Tryz.underlying171 rfl sz58 rfl rfl) rfl ?_
          refine TL.skp (Skp.store1 (v := .nilIface) (cs' := gzC R d n (gzM d c n) true false) sz58 rfl rfl rfl (by repeat (first | exact Foc.head | apply Foc.tail | apply Foc.right)) (Nat.le_of_ble_eq_true rfl) rfl) ?_
          exact TL.done (Inv.again ⟨gzM d c n, i + 5, true, false, s2, ok'⟩ trivial (by show (if gzM d c n = 0 ∧ false = false then 1 else 0) < (if 0 = 0 ∧ false = false then 1 else 0); rw [if_neg (fun h => by omega), if_pos ⟨rfl, rfl⟩]; decide) ⟨rfl, rfl, rfl, rfl, trivial⟩ (fun _ h => Own.inA (A := (bg, _) :: R.heap (i + 5) s2) (Pulls.perm (.cons (by repeat (first | exact Pull.head | apply Pull.tail | apply Pull.right)) (.cons (by repeat (first | exact Pull.head | apply Pull.tail | apply Pull.right)) .nil))) h))
        · replace hlb : lb = false := by cases lb <;> simp_all
          subst hlb
          refine TC.region ?_
          refine TL.val (Yl.move rfl) rfl ?_
          refine TL.val (Yl.move rfl) rfl ?_
          refine TL.call (Cll.func (xs := [_]) (vs := [_]) Tryz.func133 rfl (by kernel_rfl) ⟨rfl, trivial⟩) rfl (Gives.of (fun _ h => Own.inA (A := (bg, _) :: R.heap i s) (Pulls.perm (.cons (by repeat (first | exact Pull.head | apply Pull.tail | apply Pull.right)) (.cons (by repeat (first | exact Pull.head | apply Pull.tail | apply Pull.right)) .nil))) h) (next0_g R i s hi5 hzl (gzM d c n) (by omega) hz5 bg (.slice none 0 0) _ _ g ((bp, oC (bV l) te) :: Fr))) fun s2 => ?_
          refine TL.val (Yl.nilCheckP rfl) rfl ?_
          refine TL.val (Yl.fieldAddr (k := 58) (m := 6) (o := 6) Tryz.underlying171 rfl sz58 rfl rfl) rfl ?_
          refine TL.skp (Skp.store1 (v := .nilIface) (cs' := gzC R d n (gzM d c n) false false) sz58 rfl rfl rfl (by repeat (first | exact Foc.head | apply Foc.tail | apply Foc.right)) (Nat.le_of_ble_eq_true rfl) rfl) ?_
          exact TL.done (Inv.again ⟨gzM d c n, i + 5, false, false, s2, ok'⟩ trivial (by show (if gzM d c n = 0 ∧ false = false then 1 else 0) < (if 0 = 0 ∧ false = false then 1 else 0); rw [if_neg (fun h => by omega), if_pos ⟨rfl, rfl⟩]; decide) ⟨rfl, rfl, rfl, rfl, trivial⟩ (fun _ h => Own.inA (A := (bg, _) :: R.heap (i + 5) s2) (Pulls.perm (.cons (by repeat (first | exact Pull.head | apply Pull.tail | apply Pull.right)) (.cons (by repeat (first | exact Pull.head | apply Pull.tail | apply Pull.right)) .nil))) h))
  · refine TC.region ?_
    refine TL.val (Yl.move rfl) rfl ?_
    refine TL.val (Yl.nilCheckP rfl) rfl ?_
    refine TL.val (Yl.fieldAddr (k := 3) (m := 4) (o := 4) Tryz.underlying171 rfl sz3 rfl rfl) rfl ?_
    refine TL.val (Yl.load1 (v := .int .i64 (left : Int)) Tryz.underlying3 rfl rfl (by repeat (first | exact Foc.head | apply Foc.tail | apply Foc.right)) rfl) rfl ?_
    refine TL.val (Yl.eql rfl rfl (decide_eq_false (by omega))) rfl ?_
    refine TL.val (Yl.move rfl) rfl ?_
    refine TL.no rfl rfl rfl rfl rfl ?_
    refine TL.no rfl rfl rfl rfl rfl ?_
    refine TL.no rfl rfl rfl rfl rfl ?_
    refine TL.no rfl rfl rfl rfl rfl ?_
    refine TL.no rfl rfl rfl rfl rfl ?_
    refine TL.val (Yl.pickF rfl rfl) rfl ?_
    refine TL.next ?_
    refine TC.no rfl ?_
    refine TC.exit_next rfl ?_
    refine TC.seq ?_
    refine TC.seq ?_
    have hl0 : 0 < left := by omega
    have hef : ended = false := by
      cases ended
      · rfl
      · have := (ok2 rfl).1; omega
    subst hef
    have hroom := ok.room hl0
    refine TC.region ?_
    refine TL.val (Yl.move rfl) rfl ?_
    refine TL.val (Yl.nilCheckP rfl) rfl ?_
    refine TL.val (Yl.fieldAddr (k := 58) (m := 6) (o := 6) Tryz.underlying171 rfl sz58 rfl rfl) rfl ?_
    refine TL.val (Yl.load1 (v := .nilIface) Tryz.underlying58 rfl rfl (by repeat (first | exact Foc.head | apply Foc.tail | apply Foc.right)) rfl) rfl ?_
    refine TL.val (Yl.neqNilN Tryz.underlying58 rfl rfl) rfl ?_
    refine TL.next ?_
    refine TC.no rfl ?_
    refine TC.skip_next ?_
    refine TC.seq ?_
    refine TC.seq ?_
    by_cases hml : left < m
    · refine TC.region ?_
      refine TL.val (Yl.move rfl) rfl ?_
      refine TL.val (Yl.lenL Tryz.underlying40 rfl) rfl ?_
      refine TL.val (Yl.move rfl) rfl ?_
      refine TL.val (Yl.nilCheckP rfl) rfl ?_
      refine TL.val (Yl.fieldAddr (k := 3) (m := 4) (o := 4) Tryz.underlying171 rfl sz3 rfl rfl) rfl ?_
      refine TL.val (Yl.load1 (v := .int .i64 (left : Int)) Tryz.underlying3 rfl rfl (by repeat (first | exact Foc.head | apply Foc.tail | apply Foc.right)) rfl) rfl ?_
      refine TL.val (Yl.gtr rfl rfl (decide_eq_true (by omega))) rfl ?_
      refine TL.next ?_
      refine TC.yes rfl ?_
      have hadv : adv off cap 0 1 = off := by unfold adv; split <;> simp
      refine TC.region ?_
      refine TL.val (Yl.move rfl) rfl ?_
      refine TL.val (Yl.move rfl) rfl ?_
      refine TL.val (Yl.nilCheckP rfl) rfl ?_
      refine TL.val (Yl.fieldAddr (k := 3) (m := 4) (o := 4) Tryz.underlying171 rfl sz3 rfl rfl) rfl ?_
      refine TL.val (Yl.load1 (v := .int .i64 (left : Int)) Tryz.underlying3 rfl rfl (by repeat (first | exact Foc.head | apply Foc.tail | apply Foc.right)) rfl) rfl ?_
      refine TL.val (Yl.slcH (j := left) Tryz.underlying40 sz5 rfl rfl rfl (by omega)) rfl ?_
      rw [hadv]
      refine TL.val (Yl.assign rfl) rfl ?_
      refine TL.next ?_
      refine TC.seq ?_
      refine TC.region ?_
      refine TL.val (Yl.move rfl) rfl ?_
      refine TL.val (Yl.nilCheckP rfl) rfl ?_
      refine TL.val (Yl.fieldAddr (k := 110) (m := 0) (o := 0) Tryz.underlying171 rfl sz110 rfl rfl) rfl ?_
      refine TL.val (Yl.load1 (v := .iface R.t R.v) Tryz.underlying110 rfl rfl (by repeat (first | exact Foc.head | apply Foc.tail | apply Foc.right)) rfl) rfl ?_
      refine TL.val (Yl.move rfl) rfl ?_
      refine TL.call (Cll.inv (xs := [_]) (vs := [_]) R.hf R.hb R.hn R.hm rfl ⟨rfl, trivial⟩) rfl (Gives.of (fun _ h => Own.inA (A := R.heap i s) (Pulls.perm (.cons (by repeat (first | exact Pull.head | apply Pull.tail | apply Pull.right)) (.cons (by repeat (first | exact Pull.head | apply Pull.tail | apply Pull.right)) .nil))) (Own.mid (A := [_]) h)) (R.read i s hroom te l bp off left cap (by omega) (by omega) (by omega) g ((bg, oC (gzC R d n left last false) 171) :: Fr))) fun q => ?_
      have hk1 := q.1.2.1
      have hk2 := q.1.2.2.1
      have hk3 := q.1.2.2.2
      obtain ⟨hdat, ok'⟩ := GzOk.some (k := q.1.1) ok (by omega)
      rw [hdat]
      have hdl2 := ok'.1
      have htl : ((d.drop n).take q.1.1).length = q.1.1 := take_len (by omega)
      refine TL.val (Yl.move rfl) rfl ?_
      refine TL.val (Yl.extract rfl rfl) rfl ?_
      refine TL.val (Yl.extract rfl rfl) rfl ?_
      refine TL.val (Yl.assign rfl) rfl ?_
      refine TL.val (Yl.assign rfl) rfl ?_
      refine TL.next ?_
      refine TC.seq ?_
      refine TC.region ?_
      refine TL.val (Yl.move rfl) rfl ?_
      refine TL.val (Yl.nilCheckP rfl) rfl ?_
      refine TL.val (Yl.fieldAddr (k := 3) (m := 4) (o := 4) Tryz.underlying171 rfl sz3 rfl rfl) rfl ?_
      refine TL.val (Yl.load1 (v := .int .i64 (left : Int)) Tryz.underlying3 rfl rfl (by repeat (first | exact Foc.head | apply Foc.tail | apply Foc.right)) rfl) rfl ?_
      refine TL.val (Yl.move rfl) rfl ?_
      refine TL.val (Yl.sub (r := ((left - q.1.1 : Nat) : Int)) rfl rfl ((wI (by omega)).trans (by omega))) rfl ?_
      refine TL.val (Yl.nilCheckP rfl) rfl ?_
      refine TL.val (Yl.fieldAddr (k := 3) (m := 4) (o := 4) Tryz.underlying171 rfl sz3 rfl rfl) rfl ?_
      refine TL.skp (Skp.store1 (cs' := [.iface R.t R.v, .slice none 0 0, .int .u32 ((crcN (d.take n)).toNat : Int), .int .u32 ((toU32 (n : Int)).toNat : Int), .int .i64 (((left - q.1.1 : Nat) : Int)), .bool last, .nilIface]) sz3 rfl rfl rfl (by repeat (first | exact Foc.head | apply Foc.tail | apply Foc.right)) (Nat.le_of_ble_eq_true rfl) rfl) ?_
      refine TL.next ?_
      refine TC.seq ?_
      refine TC.draws [11] _ mixed (by kernel_rfl) rfl (fun _ h => h) ?_
      refine TA.pure 0 rfl (by kernel_rfl) (Yl.move rfl) rfl ?_
      refine TA.pure 1 rfl (by kernel_rfl) (Yl.move rfl) rfl ?_
      refine TA.pure 2 rfl (by kernel_rfl) (Yl.nilCheckP rfl) rfl ?_
      refine TA.pure 3 rfl (by kernel_rfl) (Yl.fieldAddr (k := 42) (m := 2) (o := 2) Tryz.underlying171 rfl sz42 rfl rfl) rfl ?_
      refine TA.load 4 rfl (by kernel_rfl) (Yl.load1 (v := .int .u32 ((crcN (d.take n)).toNat : Int)) Tryz.underlying42 rfl rfl (by repeat (first | exact Foc.head | apply Foc.tail | apply Foc.right)) rfl) rfl ?_
      refine TA.pure 5 rfl (by kernel_rfl) (Yl.move rfl) rfl ?_
      refine TA.pure 6 rfl (by kernel_rfl) (Yl.move rfl) rfl ?_
      refine TA.pure 7 rfl (by kernel_rfl) (Yl.slcH (j := q.1.1) Tryz.underlying40 sz5 rfl rfl rfl (by omega)) rfl ?_
      rw [show adv off cap 0 1 = off by unfold adv; split <;> simp]
      refine TA.quiet 8 rfl (by kernel_rfl) (Cll.func (xs := [_, _]) (vs := [_, _]) Tryz.func134 rfl (by kernel_rfl) ⟨rfl, rfl, trivial⟩) rfl (Quiet.pull (R := R.heap (i + q.1.1) q.2 ++ (eofB ea :: (bg, oC [.iface R.t R.v, .slice none 0 0, .int .u32 ((crcN (d.take n)).toNat : Int), .int .u32 ((toU32 (n : Int)).toNat : Int), .int .i64 (((left - q.1.1 : Nat) : Int)), .bool last, .nilIface] 171) :: Fr)) (L := [(bp, _)]) (.cons (by repeat (first | exact Pull.head | apply Pull.tail | apply Pull.right)) .nil) (crcD_q (te := te) d (layB l off ((d.drop n).take q.1.1)) n bp off q.1.1 cap (0, 0) (by have := layB_get (l := l) (off := off) (a := (d.drop n).take q.1.1) (by omega); rwa [htl] at this) (by omega) hdl)) ?_
      refine TA.pure 9 rfl (by kernel_rfl) (Yl.nilCheckP rfl) rfl ?_
      refine TA.pure 10 rfl (by kernel_rfl) (Yl.fieldAddr (k := 42) (m := 2) (o := 2) Tryz.underlying171 rfl sz42 rfl rfl) rfl ?_
      refine TA.one 11 (by kernel_rfl) ?_
      refine Up.skp rfl rfl (Skp.store1 (v := .int .u32 ((crcN (d.take (n + q.1.1))).toNat : Int)) (cs' := [.iface R.t R.v, .slice none 0 0, .int .u32 ((crcN (d.take (n + q.1.1))).toNat : Int), .int .u32 ((toU32 (n : Int)).toNat : Int), .int .i64 (((left - q.1.1 : Nat) : Int)), .bool last, .nilIface]) sz42 rfl rfl rfl (by repeat (first | exact Foc.head | apply Foc.tail | apply Foc.right)) (Nat.le_of_ble_eq_true rfl) rfl) (.inl rfl) ?_
      refine TA.next (by kernel_rfl) ?_
      refine TC.seq ?_
      refine TC.region ?_
      refine TL.val (Yl.move rfl) rfl ?_
      refine TL.val (Yl.nilCheckP rfl) rfl ?_
      refine TL.val (Yl.fieldAddr (k := 42) (m := 3) (o := 3) Tryz.underlying171 rfl sz42 rfl rfl) rfl ?_
      refine TL.val (Yl.load1 (v := .int .u32 ((toU32 (n : Int)).toNat : Int)) Tryz.underlying42 rfl rfl (by repeat (first | exact Foc.head | apply Foc.tail | apply Foc.right)) rfl) rfl ?_
      refine TL.val (Yl.move rfl) rfl ?_
      refine TL.val (Yl.conv Tryz.underlying3 Tryz.underlying42 rfl (w32 _)) rfl ?_
      refine TL.val (Yl.add (r := ((toU32 ((n + q.1.1 : Nat) : Int)).toNat : Int)) rfl rfl ((w32_add _ _).trans (congrArg (fun x : UInt32 => (x.toNat : Int)) (toU32_add _ _)))) rfl ?_
      refine TL.val (Yl.nilCheckP rfl) rfl ?_
      refine TL.val (Yl.fieldAddr (k := 42) (m := 3) (o := 3) Tryz.underlying171 rfl sz42 rfl rfl) rfl ?_
      refine TL.skp (Skp.store1 (v := .int .u32 ((toU32 ((n + q.1.1 : Nat) : Int)).toNat : Int)) (cs' := [.iface R.t R.v, .slice none 0 0, .int .u32 ((crcN (d.take (n + q.1.1))).toNat : Int), .int .u32 ((toU32 ((n + q.1.1 : Nat) : Int)).toNat : Int), .int .i64 (((left - q.1.1 : Nat) : Int)), .bool last, .nilIface]) sz42 rfl rfl rfl (by repeat (first | exact Foc.head | apply Foc.tail | apply Foc.right)) (Nat.le_of_ble_eq_true rfl) rfl) ?_
      refine TL.next ?_
      refine TC.seq ?_
      refine TC.seq ?_
      refine TC.region ?_
      refine TL.val (Yl.move rfl) rfl ?_
      refine TL.val (Yl.load1 (v := eofV ea) Tryz.underlying58 rfl rfl (by repeat (first | exact Foc.head | apply Foc.tail | apply Foc.right)) rfl) rfl ?_
      refine TL.val (Yl.eqlN Tryz.underlying58 rfl rfl) rfl ?_
      refine TL.val (Yl.move rfl) rfl ?_
      refine TL.no rfl rfl rfl rfl rfl ?_
      refine TL.no rfl rfl rfl rfl rfl ?_
      refine TL.no rfl rfl rfl rfl rfl ?_
      refine TL.no rfl rfl rfl rfl rfl ?_
      refine TL.no rfl rfl rfl rfl rfl ?_
      refine TL.val (Yl.pickF rfl rfl) rfl ?_
      refine TL.next ?_
      refine TC.no rfl ?_
      refine TC.seq ?_
      refine TC.region ?_
      refine TL.val (Yl.move rfl) rfl ?_
      refine TL.val (Yl.neqNilN Tryz.underlying58 rfl rfl) rfl ?_
      refine TL.val (Yl.move rfl) rfl ?_
      refine TL.no rfl rfl rfl rfl rfl ?_
      refine TL.no rfl rfl rfl rfl rfl ?_
      refine TL.no rfl rfl rfl rfl rfl ?_
      refine TL.val (Yl.pickF rfl rfl) rfl ?_
      refine TL.next ?_
      refine TC.no rfl ?_
      refine TC.skip_next ?_
      refine TC.seq ?_
      refine TC.seq ?_
      refine TC.region ?_
      refine TL.val (Yl.move rfl) rfl ?_
      refine TL.val (Yl.gtr rfl rfl (decide_eq_true (by omega))) rfl ?_
      refine TL.next ?_
      refine TC.yes rfl ?_
      refine TC.seq ?_
      refine TC.region ?_
      refine TL.val (Yl.move rfl) rfl ?_
      refine TL.val (Yl.assign rfl) rfl ?_
      refine TL.val (Yl.assign rfl) rfl ?_
      refine TL.next ?_
      exact TC.back2 ⟨⟨q.1.1, hk1, by omega, by omega⟩, ⟨left - q.1.1, i + q.1.1, last, false, q.2, ok'⟩⟩ rfl rfl rfl rfl (fun _ h => Own.mid (A := R.heap (i + q.1.1) q.2) (H1 := [(bg, _)]) (Own.inA (Pulls.perm (.cons (by repeat (first | exact Pull.head | apply Pull.tail | apply Pull.right)) .nil)) h))
    · refine TC.region ?_
      refine TL.val (Yl.move rfl) rfl ?_
      refine TL.val (Yl.lenL Tryz.underlying40 rfl) rfl ?_
      refine TL.val (Yl.move rfl) rfl ?_
      refine TL.val (Yl.nilCheckP rfl) rfl ?_
      refine TL.val (Yl.fieldAddr (k := 3) (m := 4) (o := 4) Tryz.underlying171 rfl sz3 rfl rfl) rfl ?_
      refine TL.val (Yl.load1 (v := .int .i64 (left : Int)) Tryz.underlying3 rfl rfl (by repeat (first | exact Foc.head | apply Foc.tail | apply Foc.right)) rfl) rfl ?_
      refine TL.val (Yl.gtr rfl rfl (decide_eq_false (by omega))) rfl ?_
      refine TL.next ?_
      refine TC.no rfl ?_
      refine TC.skip_next ?_
      refine TC.seq ?_
      refine TC.region ?_
      refine TL.val (Yl.move rfl) rfl ?_
      refine TL.val (Yl.nilCheckP rfl) rfl ?_
      refine TL.val (Yl.fieldAddr (k := 110) (m := 0) (o := 0) Tryz.underlying171 rfl sz110 rfl rfl) rfl ?_
      refine TL.val (Yl.load1 (v := .iface R.t R.v) Tryz.underlying110 rfl rfl (by repeat (first | exact Foc.head | apply Foc.tail | apply Foc.right)) rfl) rfl ?_
      refine TL.val (Yl.move rfl) rfl ?_
      refine TL.call (Cll.inv (xs := [_]) (vs := [_]) R.hf R.hb R.hn R.hm rfl ⟨rfl, trivial⟩) rfl (Gives.of (fun _ h => Own.inA (A := R.heap i s) (Pulls.perm (.cons (by repeat (first | exact Pull.head | apply Pull.tail | apply Pull.right)) (.cons (by repeat (first | exact Pull.head | apply Pull.tail | apply Pull.right)) .nil))) (Own.mid (A := [_]) h)) (R.read i s hroom te l bp off m cap (by omega) (by omega) (by omega) g ((bg, oC (gzC R d n left last false) 171) :: Fr))) fun q => ?_
      have hk1 := q.1.2.1
      have hk2 := q.1.2.2.1
      have hk3 := q.1.2.2.2
      obtain ⟨hdat, ok'⟩ := GzOk.some (k := q.1.1) ok (by omega)
      rw [hdat]
      have hdl2 := ok'.1
      have htl : ((d.drop n).take q.1.1).length = q.1.1 := take_len (by omega)
      refine TL.val (Yl.move rfl) rfl ?_
      refine TL.val (Yl.extract rfl rfl) rfl ?_
      refine TL.val (Yl.extract rfl rfl) rfl ?_
      refine TL.val (Yl.assign rfl) rfl ?_
      refine TL.val (Yl.assign rfl) rfl ?_
      refine TL.next ?_
      refine TC.seq ?_
      refine TC.region ?_
      refine TL.val (Yl.move rfl) rfl ?_
      refine TL.val (Yl.nilCheckP rfl) rfl ?_
      refine TL.val (Yl.fieldAddr (k := 3) (m := 4) (o := 4) Tryz.underlying171 rfl sz3 rfl rfl) rfl ?_
      refine TL.val (Yl.load1 (v := .int .i64 (left : Int)) Tryz.underlying3 rfl rfl (by repeat (first | exact Foc.head | apply Foc.tail | apply Foc.right)) rfl) rfl ?_
      refine TL.val (Yl.move rfl) rfl ?_
      refine TL.val (Yl.sub (r := ((left - q.1.1 : Nat) : Int)) rfl rfl ((wI (by omega)).trans (by omega))) rfl ?_
      refine TL.val (Yl.nilCheckP rfl) rfl ?_
      refine TL.val (Yl.fieldAddr (k := 3) (m := 4) (o := 4) Tryz.underlying171 rfl sz3 rfl rfl) rfl ?_
      refine TL.skp (Skp.store1 (cs' := [.iface R.t R.v, .slice none 0 0, .int .u32 ((crcN (d.take n)).toNat : Int), .int .u32 ((toU32 (n : Int)).toNat : Int), .int .i64 (((left - q.1.1 : Nat) : Int)), .bool last, .nilIface]) sz3 rfl rfl rfl (by repeat (first | exact Foc.head | apply Foc.tail | apply Foc.right)) (Nat.le_of_ble_eq_true rfl) rfl) ?_
      refine TL.next ?_
      refine TC.seq ?_
      refine TC.draws [11] _ mixed (by kernel_rfl) rfl (fun _ h => h) ?_
      refine TA.pure 0 rfl (by kernel_rfl) (Yl.move rfl) rfl ?_
      refine TA.pure 1 rfl (by kernel_rfl) (Yl.move rfl) rfl ?_
      refine TA.pure 2 rfl (by kernel_rfl) (Yl.nilCheckP rfl) rfl ?_
      refine TA.pure 3 rfl (by kernel_rfl) (Yl.fieldAddr (k := 42) (m := 2) (o := 2) Tryz.underlying171 rfl sz42 rfl rfl) rfl ?_
      refine TA.load 4 rfl (by kernel_rfl) (Yl.load1 (v := .int .u32 ((crcN (d.take n)).toNat : Int)) Tryz.underlying42 rfl rfl (by repeat (first | exact Foc.head | apply Foc.tail | apply Foc.right)) rfl) rfl ?_
      refine TA.pure 5 rfl (by kernel_rfl) (Yl.move rfl) rfl ?_
      refine TA.pure 6 rfl (by kernel_rfl) (Yl.move rfl) rfl ?_
      refine TA.pure 7 rfl (by kernel_rfl) (Yl.slcH (j := q.1.1) Tryz.underlying40 sz5 rfl rfl rfl (by omega)) rfl ?_
      rw [show adv off cap 0 1 = off by unfold adv; split <;> simp]
      refine TA.quiet 8 rfl (by kernel_rfl) (Cll.func (xs := [_, _]) (vs := [_, _]) Tryz.func134 rfl (by kernel_rfl) ⟨rfl, rfl, trivial⟩) rfl (Quiet.pull (R := R.heap (i + q.1.1) q.2 ++ (eofB ea :: (bg, oC [.iface R.t R.v, .slice none 0 0, .int .u32 ((crcN (d.take n)).toNat : Int), .int .u32 ((toU32 (n : Int)).toNat : Int), .int .i64 (((left - q.1.1 : Nat) : Int)), .bool last, .nilIface] 171) :: Fr)) (L := [(bp, _)]) (.cons (by repeat (first | exact Pull.head | apply Pull.tail | apply Pull.right)) .nil) (crcD_q (te := te) d (layB l off ((d.drop n).take q.1.1)) n bp off q.1.1 cap (0, 0) (by have := layB_get (l := l) (off := off) (a := (d.drop n).take q.1.1) (by omega); rwa [htl] at this) (by omega) hdl)) ?_
      refine TA.pure 9 rfl (by kernel_rfl) (Yl.nilCheckP rfl) rfl ?_
      refine TA.pure 10 rfl (by kernel_rfl) (Yl.fieldAddr (k := 42) (m := 2) (o := 2) Tryz.underlying171 rfl sz42 rfl rfl) rfl ?_
      refine TA.one 11 (by kernel_rfl) ?_
      refine Up.skp rfl rfl (Skp.store1 (v := .int .u32 ((crcN (d.take (n + q.1.1))).toNat : Int)) (cs' := [.iface R.t R.v, .slice none 0 0, .int .u32 ((crcN (d.take (n + q.1.1))).toNat : Int), .int .u32 ((toU32 (n : Int)).toNat : Int), .int .i64 (((left - q.1.1 : Nat) : Int)), .bool last, .nilIface]) sz42 rfl rfl rfl (by repeat (first | exact Foc.head | apply Foc.tail | apply Foc.right)) (Nat.le_of_ble_eq_true rfl) rfl) (.inl rfl) ?_
      refine TA.next (by kernel_rfl) ?_
      refine TC.seq ?_
      refine TC.region ?_
      refine TL.val (Yl.move rfl) rfl ?_
      refine TL.val (Yl.nilCheckP rfl) rfl ?_
      refine TL.val (Yl.fieldAddr (k := 42) (m := 3) (o := 3) Tryz.underlying171 rfl sz42 rfl rfl) rfl ?_
      refine TL.val (Yl.load1 (v := .int .u32 ((toU32 (n : Int)).toNat : Int)) Tryz.underlying42 rfl rfl (by repeat (first | exact Foc.head | apply Foc.tail | apply Foc.right)) rfl) rfl ?_
      refine TL.val (Yl.move rfl) rfl ?_
      refine TL.val (Yl.conv Tryz.underlying3 Tryz.underlying42 rfl (w32 _)) rfl ?_
      refine TL.val (Yl.add (r := ((toU32 ((n + q.1.1 : Nat) : Int)).toNat : Int)) rfl rfl ((w32_add _ _).trans (congrArg (fun x : UInt32 => (x.toNat : Int)) (toU32_add _ _)))) rfl ?_
      refine TL.val (Yl.nilCheckP rfl) rfl ?_
      refine TL.val (Yl.fieldAddr (k := 42) (m := 3) (o := 3) Tryz.underlying171 rfl sz42 rfl rfl) rfl ?_
      refine TL.skp (Skp.store1 (v := .int .u32 ((toU32 ((n + q.1.1 : Nat) : Int)).toNat : Int)) (cs' := [.iface R.t R.v, .slice none 0 0, .int .u32 ((crcN (d.take (n + q.1.1))).toNat : Int), .int .u32 ((toU32 ((n + q.1.1 : Nat) : Int)).toNat : Int), .int .i64 (((left - q.1.1 : Nat) : Int)), .bool last, .nilIface]) sz42 rfl rfl rfl (by repeat (first | exact Foc.head | apply Foc.tail | apply Foc.right)) (Nat.le_of_ble_eq_true rfl) rfl) ?_
      refine TL.next ?_
      refine TC.seq ?_
      refine TC.seq ?_
      refine TC.region ?_
      refine TL.val (Yl.move rfl) rfl ?_
      refine TL.val (Yl.load1 (v := eofV ea) Tryz.underlying58 rfl rfl (by repeat (first | exact Foc.head | apply Foc.tail | apply Foc.right)) rfl) rfl ?_
      refine TL.val (Yl.eqlN Tryz.underlying58 rfl rfl) rfl ?_
      refine TL.val (Yl.move rfl) rfl ?_
      refine TL.no rfl rfl rfl rfl rfl ?_
      refine TL.no rfl rfl rfl rfl rfl ?_
      refine TL.no rfl rfl rfl rfl rfl ?_
      refine TL.no rfl rfl rfl rfl rfl ?_
      refine TL.no rfl rfl rfl rfl rfl ?_
      refine TL.val (Yl.pickF rfl rfl) rfl ?_
      refine TL.next ?_
      refine TC.no rfl ?_
      refine TC.seq ?_
      refine TC.region ?_
      refine TL.val (Yl.move rfl) rfl ?_
      refine TL.val (Yl.neqNilN Tryz.underlying58 rfl rfl) rfl ?_
      refine TL.val (Yl.move rfl) rfl ?_
      refine TL.no rfl rfl rfl rfl rfl ?_
      refine TL.no rfl rfl rfl rfl rfl ?_
      refine TL.no rfl rfl rfl rfl rfl ?_
      refine TL.val (Yl.pickF rfl rfl) rfl ?_
      refine TL.next ?_
      refine TC.no rfl ?_
      refine TC.skip_next ?_
      refine TC.seq ?_
      refine TC.seq ?_
      refine TC.region ?_
      refine TL.val (Yl.move rfl) rfl ?_
      refine TL.val (Yl.gtr rfl rfl (decide_eq_true (by omega))) rfl ?_
      refine TL.next ?_
      refine TC.yes rfl ?_
      refine TC.seq ?_
      refine TC.region ?_
      refine TL.val (Yl.move rfl) rfl ?_
      refine TL.val (Yl.assign rfl) rfl ?_
      refine TL.val (Yl.assign rfl) rfl ?_
      refine TL.next ?_
      exact TC.back2 ⟨⟨q.1.1, hk1, by omega, by omega⟩, ⟨left - q.1.1, i + q.1.1, last, false, q.2, ok'⟩⟩ rfl rfl rfl rfl (fun _ h => Own.mid (A := R.heap (i + q.1.1) q.2) (H1 := [(bg, _)]) (Own.inA (Pulls.perm (.cons (by repeat (first | exact Pull.head | apply Pull.tail | apply Pull.right)) .nil)) h))
theorem gzEof_g {ea : Addr} {z : List UInt8} (R : Rdr ea z) (d : List UInt8) (c n : Nat) (hc : 0 < c) (hzl : z.length ≤ 1099511627776) (hn : n = d.length) (st : GzSt R d c n) (te : TypeId) (l : List UInt8) (bp off m cap : Nat) (hm : 0 < m) (hcap : m ≤ cap) (hle : off + m ≤ l.length) (bg : Nat) (g : World) (Fr : HL) :
    Gives Tryz.prog 132 #[pt bg 0, sl bp off m cap] g ((bg, oC (gzC R d n st.left st.last st.ended) 171) :: (R.heap st.i st.s ++ ((bp, oC (bV l) te) :: eofB ea :: Fr))) (GzSt R d c n) (fun _ => .tuple #[.int .i64 0, eofV ea])
      (fun q => (bg, oC (gzC R d n q.left q.last q.ended) 171) :: (R.heap q.i q.s ++ ((bp, oC (bV l) te) :: eofB ea :: Fr))) := by
  refine Gives.enter Tryz.func132 rfl Tryz.ntmps132 rfl ?_
  refine TC.seq ?_
  refine TC.region ?_
  refine TL.val (Yl.assign rfl) rfl ?_
  refine TL.val (Yl.assign rfl) rfl ?_
  refine TL.next ?_
  refine TC.seq ?_
  refine TC.block ?_
  refine TC.loopI (σ := GzSt R d c n) (fun p => [(0, pt bg 0), (1, sl bp off m cap), (4, .int .i64 0), (5, .nilIface)]) (fun p => (bg, oC (gzC R d n p.left p.last p.ended) 171) :: (R.heap p.i p.s ++ ((bp, oC (bV l) te) :: eofB ea :: Fr))) (fun p => True) (fun p => (if p.left = 0 ∧ p.ended = false then 1 else 0)) st ⟨rfl, rfl, rfl, rfl, trivial⟩ (fun _ h => h) trivial (fun p hp => ?_)
  obtain ⟨left, i, last, ended, s, ok⟩ := p
  clear hp
  dsimp only
  have ok1 := ok.1
  have ok2 := ok.2.1
  refine TC.seq ?_
  refine TC.seq ?_
  by_cases hl : left = 0
  · subst hl
    by_cases he : ended = true
    · subst he
      refine TC.region ?_
      refine TL.val (Yl.move rfl) rfl ?_
      refine TL.val (Yl.nilCheckP rfl) rfl ?_
      refine TL.val (Yl.fieldAddr (k := 3) (m := 4) (o := 4) Tryz.underlying171 rfl sz3 rfl rfl) rfl ?_
      refine TL.val (Yl.load1 (v := .int .i64 0) Tryz.underlying3 rfl rfl (by repeat (first | exact Foc.head | apply Foc.tail | apply Foc.right)) rfl) rfl ?_
      refine TL.val (Yl.eql (b := true) rfl rfl rfl) rfl ?_
      refine TL.val (Yl.move rfl) rfl ?_
      refine TL.yes rfl rfl rfl ?_
      refine TL.val (Yl.move rfl) rfl ?_
      refine TL.yes rfl rfl rfl ?_
      refine TL.val (Yl.nilCheckP rfl) rfl ?_
      refine TL.yes rfl rfl rfl ?_
      refine TL.val (Yl.fieldAddr (k := 58) (m := 6) (o := 6) Tryz.underlying171 rfl sz58 rfl rfl) rfl ?_
      refine TL.yes rfl rfl rfl ?_
      refine TL.val (Yl.load1 (v := eofV ea) Tryz.underlying58 rfl rfl (by repeat (first | exact Foc.head | apply Foc.tail | apply Foc.right)) rfl) rfl ?_
      refine TL.yes rfl rfl rfl ?_
      refine TL.val (Yl.eqlNilI Tryz.underlying58 rfl rfl) rfl ?_
      refine TL.val (Yl.pickT rfl rfl) rfl ?_
      refine TL.next ?_
      refine TC.no rfl ?_
      refine TC.exit_next rfl ?_
      refine TC.seq ?_
      refine TC.seq ?_
      refine TC.region ?_
      refine TL.val (Yl.move rfl) rfl ?_
      refine TL.val (Yl.nilCheckP rfl) rfl ?_
      refine TL.val (Yl.fieldAddr (k := 58) (m := 6) (o := 6) Tryz.underlying171 rfl sz58 rfl rfl) rfl ?_
      refine TL.val (Yl.load1 (v := eofV ea) Tryz.underlying58 rfl rfl (by repeat (first | exact Foc.head | apply Foc.tail | apply Foc.right)) rfl) rfl ?_
      refine TL.val (Yl.neqNilI Tryz.underlying58 rfl rfl) rfl ?_
      refine TL.next ?_
      refine TC.yes rfl ?_
      refine TC.seq ?_
      refine TC.draws [] _ mixed (by kernel_rfl) rfl (fun _ h => h) ?_
      refine TA.pure 0 rfl (by kernel_rfl) (Yl.move rfl) rfl ?_
      refine TA.pure 1 rfl (by kernel_rfl) (Yl.nilCheckP rfl) rfl ?_
      refine TA.pure 2 rfl (by kernel_rfl) (Yl.fieldAddr (k := 58) (m := 6) (o := 6) Tryz.underlying171 rfl sz58 rfl rfl) rfl ?_
      refine TA.load 3 rfl (by kernel_rfl) (Yl.load1 (v := eofV ea) Tryz.underlying58 rfl rfl (by repeat (first | exact Foc.head | apply Foc.tail | apply Foc.right)) rfl) rfl ?_
      refine TA.pure 4 rfl (by kernel_rfl) (Yl.assign rfl) rfl ?_
      refine TA.pure 5 rfl (by kernel_rfl) (Yl.assign rfl) rfl ?_
      refine TA.next (by kernel_rfl) ?_
      exact TC.back2 ⟨0, i, last, true, s, ok⟩ rfl rfl rfl rfl (fun _ h => h)
    · replace he : ended = false := by cases ended <;> simp_all
      subst he
      refine TC.region ?_
      refine TL.val (Yl.move rfl) rfl ?_
      refine TL.val (Yl.nilCheckP rfl) rfl ?_
      refine TL.val (Yl.fieldAddr (k := 3) (m := 4) (o := 4) Tryz.underlying171 rfl sz3 rfl rfl) rfl ?_
      refine TL.val (Yl.load1 (v := .int .i64 0) Tryz.underlying3 rfl rfl (by repeat (first | exact Foc.head | apply Foc.tail | apply Foc.right)) rfl) rfl ?_
      refine TL.val (Yl.eql (b := true) rfl rfl rfl) rfl ?_
      refine TL.val (Yl.move rfl) rfl ?_
      refine TL.yes rfl rfl rfl ?_
      refine TL.val (Yl.move rfl) rfl ?_
      refine TL.yes rfl rfl rfl ?_
      refine TL.val (Yl.nilCheckP rfl) rfl ?_
      refine TL.yes rfl rfl rfl ?_
      refine TL.val (Yl.fieldAddr (k := 58) (m := 6) (o := 6) Tryz.underlying171 rfl sz58 rfl rfl) rfl ?_
      refine TL.yes rfl rfl rfl ?_
      refine TL.val (Yl.load1 (v := .nilIface) Tryz.underlying58 rfl rfl (by repeat (first | exact Foc.head | apply Foc.tail | apply Foc.right)) rfl) rfl ?_
      refine TL.yes rfl rfl rfl ?_
      refine TL.val (Yl.eqlNilN Tryz.underlying58 rfl rfl) rfl ?_
      refine TL.val (Yl.pickT rfl rfl) rfl ?_
      refine TL.next ?_
      refine TC.yes rfl ?_
      refine TC.skip_next ?_
      refine TC.block ?_
      by_cases hla : last = true
      · subst hla
        obtain ⟨hn, hi8, hz8⟩ := ok.fin
        subst hn
        refine TC.region ?_
        refine TL.val (Yl.move rfl) rfl ?_
        refine TL.val (Yl.move rfl) rfl ?_
        refine TL.call (Cll.func (xs := [_]) (vs := [_]) Tryz.func133 rfl (by kernel_rfl) ⟨rfl, trivial⟩) rfl (Gives.of (fun _ h => by rw [gzC_end] at h; exact Own.inA (A := (bg, _) :: R.heap i s) (Pulls.perm (.cons (by repeat (first | exact Pull.head | apply Pull.tail | apply Pull.right)) (.cons (by repeat (first | exact Pull.head | apply Pull.tail | apply Pull.right)) .nil))) h) (nextEnd_g R d i s hi8 hzl hz8 bg (.slice none 0 0) g ((bp, oC (bV l) te) :: Fr))) fun s2 => ?_
        refine TL.val (Yl.nilCheckP rfl) rfl ?_
        refine TL.val (Yl.fieldAddr (k := 58) (m := 6) (o := 6) Tryz.underlying171 rfl sz58 rfl rfl) rfl ?_
        refine TL.skp (Skp.store1 (v := eofV ea) (cs' := gzE R d) sz58 rfl rfl rfl (by repeat (first | exact Foc.head | apply Foc.tail | apply Foc.right)) (Nat.le_of_ble_eq_true rfl) rfl) ?_
        exact TL.done (Inv.again ⟨0, z.length, true, true, s2, ⟨Nat.le_refl _, fun _ => ⟨rfl, rfl⟩, fun h => (nomatch h)⟩⟩ trivial Nat.zero_lt_one ⟨rfl, rfl, rfl, rfl, trivial⟩ (fun _ h => by rw [gzE_end] at h; exact Own.inA (A := (bg, _) :: R.heap z.length s2) (Pulls.perm (.cons (by repeat (first | exact Pull.head | apply Pull.tail | apply Pull.right)) (.cons (by repeat (first | exact Pull.head | apply Pull.tail | apply Pull.right)) .nil))) h))
      · exfalso
        have hlf : last = false := by cases last <;> simp_all
        subst hlf
        obtain ⟨_, _, h3⟩ := ok
        obtain ⟨_, _, h4⟩ := h3 rfl
        rcases h4 with ⟨a, _⟩ | ⟨_, a, _⟩
        · cases a
        · omega
  · exfalso
    omega
end Go.Proofs.YtlhncphipfkkjaaGreatDoor

/- The gzip reader and the tee as readers. -/
namespace Go.Proofs.YtlhncphipfkkjaaGreatDoor
open Go

noncomputable def gzRd {ea : Addr} {z : List UInt8} (R : Rdr ea z) (d : List UInt8) (c : Nat) (hc : 0 < c) (hcm : c ≤ 60000) (hzl : z.length ≤ 1099511627776) (hdl : d.length ≤ 1099511627776) (bg : Nat) : Rdr ea d where
  t := 104
  v := pt bg 0
  rv := pt bg 0
  f := 132
  fn := _
  c := _
  hf := Tryz.func132
  hb := rfl
  hn := by kernel_rfl
  hm := fun w => by kernel_rfl
  ha := fun w => by kernel_rfl
  St := fun n => GzSt R d c n
  heap := fun n st => (bg, oC (gzC R d n st.left st.last st.ended) 171) :: R.heap st.i st.s
  read := fun n st hn te l bp off m cap hm hcap hle g Fr => gzRead_g R d c n hc hcm hzl hdl hn st te l bp off m cap hm hcap hle bg g Fr
  eof := fun st te l bp off m cap hm hcap hle g Fr => gzEof_g R d c d.length hc hzl rfl st te l bp off m cap hm hcap hle bg g Fr

theorem perm_one {A S F : HL} {p e b : Nat × Obj} : (b :: (S ++ (A ++ (p :: e :: F)))).Perm (A ++ (p :: e :: b :: (S ++ F))) := by
  have h1 : (b :: (S ++ (A ++ (p :: e :: F)))).Perm (A ++ ((b :: S) ++ (p :: e :: F))) := List.perm_append_comm_assoc (b :: S) A (p :: e :: F)
  exact h1.trans (List.Perm.append_left A (List.perm_append_comm_assoc (b :: S) [p, e] F))
theorem perm_two {A S F : HL} {p e b : Nat × Obj} : (A ++ (p :: e :: b :: (S ++ F))).Perm (S ++ (p :: (A ++ (e :: b :: F)))) := by
  have h1 : (p :: e :: b :: (S ++ F)).Perm (S ++ (p :: e :: b :: F)) := List.perm_append_comm_assoc [p, e, b] S F
  exact (List.Perm.append_left A h1).trans ((List.perm_append_comm_assoc A S _).trans (List.Perm.append_left S List.perm_middle))
theorem perm_three {A S F : HL} {p e b : Nat × Obj} : (S ++ (p :: (A ++ (e :: b :: F)))).Perm (b :: (S ++ (A ++ (p :: e :: F)))) := by
  have h1 : (A ++ (p :: e :: b :: F)).Perm (p :: (A ++ (e :: b :: F))) := List.perm_middle
  have h2 : (p :: e :: b :: F).Perm (b :: p :: e :: F) := List.perm_middle (l₁ := [p, e]) (a := b) (l₂ := F)
  have h3 : (A ++ (b :: p :: e :: F)).Perm (b :: (A ++ (p :: e :: F))) := List.perm_middle
  have h4 : (S ++ (b :: (A ++ (p :: e :: F)))).Perm (b :: (S ++ (A ++ (p :: e :: F)))) := List.perm_middle
  exact (List.Perm.append_left S (h1.symm.trans ((List.Perm.append_left A h2).trans h3))).trans h4

theorem write2_g {te : TypeId} (l l' data lp : List UInt8) (hll : l ++ data = l') (q : Held l) (bh bp off m cap : Nat) (fr : Nat × Nat) (hd : (lp.drop off).take m = data) (hdl : data.length = m) (hl : l.length + m ≤ 1099511627776) (g : World) (Fr : HL) :
    Gives Tryz.prog 179 #[pt bh 0, sl bp off m cap] g (ShaAt bh l q.1 ++ (bp, .cells ⟨bV lp⟩ te fr) :: Fr) (Held l') (fun _ => .tuple #[.int .i64 (m : Int), .nilIface]) (fun q' => ShaAt bh l' q'.1 ++ (bp, .cells ⟨bV lp⟩ te fr) :: Fr) := by
  subst hll
  exact write_g l data lp q bh bp off m cap fr hd hdl hl g Fr
end Go.Proofs.YtlhncphipfkkjaaGreatDoor

namespace Go.Proofs.YtlhncphipfkkjaaGreatDoor
open Go
theorem newTee_g {ea : Addr} {d : List UInt8} (R : Rdr ea d) (bh : Nat) (g : World) (Fr : HL) : Gives Tryz.prog 33 #[.iface R.t R.v, .iface 166 (pt bh 0)] g Fr Nat (fun b => .iface 176 (pt b 0)) (fun b => (b, oC [.iface R.t R.v, .iface 166 (pt bh 0)] 178) :: Fr) := by
  refine Gives.enter Tryz.func33 rfl Tryz.ntmps33 rfl ?_
  refine TC.seq ?_
  refine TC.region ?_
  refine TL.val (Yl.assign rfl) rfl ?_
  refine TL.next ?_
  refine TC.seq ?_
  refine TC.region ?_
  refine TL.val (Yl.move rfl) rfl ?_
  refine TL.val (Yl.move rfl) rfl ?_
  refine TL.val (Yl.build (ixs := [0, 1]) (vs := [.iface R.t R.v, .iface 166 (pt bh 0)]) (rs := [.iface R.t R.v, .iface 166 (pt bh 0)]) [_, _] st178 rfl ⟨rfl, rfl, trivial⟩ rfl) rfl ?_
  refine TL.eff (Eff.box (v := .agg ⟨[.iface R.t R.v, .iface 166 (pt bh 0)]⟩) rfl rfl) rfl fun b8 => ?_
  refine TL.val (Yl.iface Tryz.underlying176 rfl rfl) rfl ?_
  refine TL.val (Yl.assign rfl) rfl ?_
  refine TL.next ?_
  exact TC.back1 (σ := Nat) b8 rfl rfl (fun _ h => h)
theorem teeRead_g {ea : Addr} {d : List UInt8} (R : Rdr ea d) (hdl : d.length ≤ 1099511627776) (n : Nat) (q : Held (d.take n)) (s : R.St n) (hn : n < d.length) (te : TypeId) (l : List UInt8) (bp off m cap : Nat) (hm : 0 < m) (hcap : m ≤ cap) (hle : off + m ≤ l.length) (bt bh : Nat) (g : World) (Fr : HL) :
    Gives Tryz.prog 184 #[pt bt 0, sl bp off m cap] g ((bt, oC [.iface R.t R.v, .iface 166 (pt bh 0)] 178) :: (ShaAt bh (d.take n) q.1 ++ (R.heap n s ++ ((bp, oC (bV l) te) :: eofB ea :: Fr)))) ((k : Rk d n m) × (Held (d.take (n + k.1)) × R.St (n + k.1))) (fun r => .tuple #[.int .i64 (r.1.1 : Int), .nilIface])
      (fun r => (bt, oC [.iface R.t R.v, .iface 166 (pt bh 0)] 178) :: (ShaAt bh (d.take (n + r.1.1)) r.2.1.1 ++ (R.heap (n + r.1.1) r.2.2 ++ ((bp, oC (bV (layB l off ((d.drop n).take r.1.1))) te) :: eofB ea :: Fr)))) := by
  refine Gives.enter Tryz.func184 rfl Tryz.ntmps184 rfl ?_
  refine TC.seq ?_
  refine TC.region ?_
  refine TL.val (Yl.assign rfl) rfl ?_
  refine TL.val (Yl.assign rfl) rfl ?_
  refine TL.next ?_
  refine TC.seq ?_
  refine TC.region ?_
  refine TL.val (Yl.move rfl) rfl ?_
  refine TL.val (Yl.nilCheckP rfl) rfl ?_
  refine TL.val (Yl.fieldAddr (k := 110) (m := 0) (o := 0) Tryz.underlying178 rfl sz110 rfl rfl) rfl ?_
  refine TL.val (Yl.load1 (v := .iface R.t R.v) Tryz.underlying110 rfl rfl (by repeat (first | exact Foc.head | apply Foc.tail | apply Foc.right)) rfl) rfl ?_
  refine TL.val (Yl.move rfl) rfl ?_
  refine TL.call (Cll.inv (xs := [_]) (vs := [_]) R.hf R.hb R.hn R.hm rfl ⟨rfl, trivial⟩) rfl (Gives.of (fun _ h => h.perm perm_one) (R.read n s hn te l bp off m cap hm hcap hle g ((bt, oC [.iface R.t R.v, .iface 166 (pt bh 0)] 178) :: (ShaAt bh (d.take n) q.1 ++ Fr)))) fun r => ?_
  have hk1 := r.1.2.1
  have hk2 := r.1.2.2.1
  have hk3 := r.1.2.2.2
  have htl : ((d.drop n).take r.1.1).length = r.1.1 := take_len (by omega)
  have htn : (d.take n).length = n := by rw [List.length_take]; omega
  refine TL.val (Yl.move rfl) rfl ?_
  refine TL.val (Yl.extract rfl rfl) rfl ?_
  refine TL.val (Yl.extract rfl rfl) rfl ?_
  refine TL.val (Yl.assign rfl) rfl ?_
  refine TL.val (Yl.assign rfl) rfl ?_
  refine TL.next ?_
  refine TC.seq ?_
  refine TC.seq ?_
  refine TC.region ?_
  refine TL.val (Yl.move rfl) rfl ?_
  refine TL.val (Yl.gtr rfl rfl (decide_eq_true (by omega))) rfl ?_
  refine TL.next ?_
  refine TC.yes rfl ?_
  refine TC.seq ?_
  refine TC.draws [] [(bt, oC [.iface R.t R.v, .iface 166 (pt bh 0)] 178)] mixed (by kernel_rfl) rfl (fun _ h => h.sub (List.Sublist.trans (.cons _ (.cons _ (.cons_cons _ (List.nil_sublist _)))) (List.sublist_append_right _ _))) ?_
  refine TA.pure 0 rfl (by kernel_rfl) (Yl.move rfl) rfl ?_
  refine TA.pure 1 rfl (by kernel_rfl) (Yl.nilCheckP rfl) rfl ?_
  refine TA.pure 2 rfl (by kernel_rfl) (Yl.fieldAddr (k := 175) (m := 1) (o := 1) Tryz.underlying178 rfl sz175 rfl rfl) rfl ?_
  refine TA.load 3 rfl (by kernel_rfl) (Yl.load1 (v := .iface 166 (pt bh 0)) Tryz.underlying175 rfl rfl .head rfl) rfl ?_
  refine TA.pure 4 rfl (by kernel_rfl) (Yl.move rfl) rfl ?_
  refine TA.pure 5 rfl (by kernel_rfl) (Yl.move rfl) rfl ?_
  refine TA.pure 6 rfl (by kernel_rfl) (Yl.slcH (j := r.1.1) Tryz.underlying40 sz5 rfl rfl rfl (by omega)) rfl ?_
  rw [show adv off cap 0 1 = off by unfold adv; split <;> simp]
  refine TA.pure 7 rfl (by kernel_rfl) (Yl.nilCheckI rfl) rfl ?_
  refine TA.pure 8 rfl (by kernel_rfl) (Yl.move rfl) rfl ?_
  refine TA.one 9 (by kernel_rfl) ?_
  refine Up.call rfl rfl (Cll.inv (xs := [_]) (vs := [_]) Tryz.func179 rfl (by kernel_rfl) (m166Write _) rfl ⟨rfl, trivial⟩) rfl (Gives.of (fun _ h => h.perm perm_two) (write2_g (te := te) (d.take n) (d.take (n + r.1.1)) ((d.drop n).take r.1.1) (layB l off ((d.drop n).take r.1.1)) List.take_add.symm q bh bp off r.1.1 cap (0, 0) (by have := layB_get (l := l) (off := off) (a := (d.drop n).take r.1.1) (by omega); rwa [htl] at this) htl (by omega) g (R.heap (n + r.1.1) r.2 ++ (eofB ea :: (bt, oC [.iface R.t R.v, .iface 166 (pt bh 0)] 178) :: Fr)))) (fun _ => .inr (fun _ h => h.sub (List.Sublist.trans (.cons _ (List.Sublist.trans (.cons _ (.cons_cons _ (List.nil_sublist _))) (List.sublist_append_right _ _))) (List.sublist_append_right _ _)))) fun q2 => ?_
  refine TA.pure 10 rfl (by kernel_rfl) (Yl.move rfl) rfl ?_
  refine TA.pure 11 rfl (by kernel_rfl) (Yl.extract rfl rfl) rfl ?_
  refine TA.pure 12 rfl (by kernel_rfl) (Yl.extract rfl rfl) rfl ?_
  refine TA.pure 13 rfl (by kernel_rfl) (Yl.assign rfl) rfl ?_
  refine TA.pure 14 rfl (by kernel_rfl) (Yl.assign rfl) rfl ?_
  refine TA.next (by kernel_rfl) ?_
  refine TC.seq ?_
  refine TC.region ?_
  refine TL.val (Yl.move rfl) rfl ?_
  refine TL.val (Yl.neqNilN Tryz.underlying58 rfl rfl) rfl ?_
  refine TL.next ?_
  refine TC.no rfl ?_
  refine TC.skip_next ?_
  exact TC.back2 ⟨r.1, q2, r.2⟩ rfl rfl rfl rfl (fun _ h => h.perm perm_three)
theorem teeEof_g {ea : Addr} {d : List UInt8} (R : Rdr ea d) (q : Held (d.take d.length)) (s : R.St d.length) (te : TypeId) (l : List UInt8) (bp off m cap : Nat) (hm : 0 < m) (hcap : m ≤ cap) (hle : off + m ≤ l.length) (bt bh : Nat) (g : World) (Fr : HL) :
    Gives Tryz.prog 184 #[pt bt 0, sl bp off m cap] g ((bt, oC [.iface R.t R.v, .iface 166 (pt bh 0)] 178) :: (ShaAt bh (d.take d.length) q.1 ++ (R.heap d.length s ++ ((bp, oC (bV l) te) :: eofB ea :: Fr)))) (Held (d.take d.length) × R.St d.length) (fun _ => .tuple #[.int .i64 0, eofV ea])
      (fun r => (bt, oC [.iface R.t R.v, .iface 166 (pt bh 0)] 178) :: (ShaAt bh (d.take d.length) r.1.1 ++ (R.heap d.length r.2 ++ ((bp, oC (bV l) te) :: eofB ea :: Fr)))) := by
  refine Gives.enter Tryz.func184 rfl Tryz.ntmps184 rfl ?_
  refine TC.seq ?_
  refine TC.region ?_
  refine TL.val (Yl.assign rfl) rfl ?_
  refine TL.val (Yl.assign rfl) rfl ?_
  refine TL.next ?_
  refine TC.seq ?_
  refine TC.region ?_
  refine TL.val (Yl.move rfl) rfl ?_
  refine TL.val (Yl.nilCheckP rfl) rfl ?_
  refine TL.val (Yl.fieldAddr (k := 110) (m := 0) (o := 0) Tryz.underlying178 rfl sz110 rfl rfl) rfl ?_
  refine TL.val (Yl.load1 (v := .iface R.t R.v) Tryz.underlying110 rfl rfl (by repeat (first | exact Foc.head | apply Foc.tail | apply Foc.right)) rfl) rfl ?_
  refine TL.val (Yl.move rfl) rfl ?_
  refine TL.call (Cll.inv (xs := [_]) (vs := [_]) R.hf R.hb R.hn R.hm rfl ⟨rfl, trivial⟩) rfl (Gives.of (fun _ h => h.perm perm_one) (R.eof s te l bp off m cap hm hcap hle g ((bt, oC [.iface R.t R.v, .iface 166 (pt bh 0)] 178) :: (ShaAt bh (d.take d.length) q.1 ++ Fr)))) fun r => ?_
  refine TL.val (Yl.move rfl) rfl ?_
  refine TL.val (Yl.extract rfl rfl) rfl ?_
  refine TL.val (Yl.extract rfl rfl) rfl ?_
  refine TL.val (Yl.assign rfl) rfl ?_
  refine TL.val (Yl.assign rfl) rfl ?_
  refine TL.next ?_
  refine TC.seq ?_
  refine TC.seq ?_
  refine TC.region ?_
  refine TL.val (Yl.move rfl) rfl ?_
  refine TL.val (Yl.gtr rfl rfl (decide_eq_false (by omega))) rfl ?_
  refine TL.next ?_
  refine TC.no rfl ?_
  refine TC.skip_next ?_
  exact TC.back2 (q, r) rfl rfl rfl rfl (fun _ h => (h.perm perm_one.symm))
noncomputable def teeR {ea : Addr} {d : List UInt8} (R : Rdr ea d) (hdl : d.length ≤ 1099511627776) (bt bh : Nat) : Rdr ea d where
  t := 176
  v := pt bt 0
  rv := pt bt 0
  f := 184
  fn := _
  c := _
  hf := Tryz.func184
  hb := rfl
  hn := by kernel_rfl
  hm := fun w => by kernel_rfl
  ha := fun w => by kernel_rfl
  St := fun n => Held (d.take n) × R.St n
  heap := fun n st => (bt, oC [.iface R.t R.v, .iface 166 (pt bh 0)] 178) :: (ShaAt bh (d.take n) st.1.1 ++ R.heap n st.2)
  read := fun n st hn te l bp off m cap hm hcap hle g Fr =>
    Gives.map (fun r => r) (fun _ => rfl) (fun r w h => by simp only [List.cons_append, List.append_assoc]; exact h)
      (Gives.of (fun w h => by simp only [List.cons_append, List.append_assoc] at h; exact h) (teeRead_g R hdl n st.1 st.2 hn te l bp off m cap hm hcap hle bt bh g Fr))
  eof := fun st te l bp off m cap hm hcap hle g Fr =>
    Gives.map (fun r => r) (fun _ => rfl) (fun r w h => by simp only [List.cons_append, List.append_assoc]; exact h)
      (Gives.of (fun w h => by simp only [List.cons_append, List.append_assoc] at h; exact h) (teeEof_g R st.1 st.2 te l bp off m cap hm hcap hle bt bh g Fr))
end Go.Proofs.YtlhncphipfkkjaaGreatDoor
