/- The contracts of the tar reader's header, at an entry and at the end; conditions: the next bytes are such a header, or zeros. -/
import Derived.Test.YtlhncphipfkkjaaGreatDoorW08
namespace Go.Proofs.YtlhncphipfkkjaaGreatDoor
open Go
theorem Own.hdr {g w : World} {c b a b4 bt : Nat} {oc ob oa o4 ot : Obj} {A Fr : HL} {e : Nat × Obj} (h : Own g w ((c, oc) :: (b, ob) :: (a, oa) :: (A ++ ((b4, o4) :: e :: (bt, ot) :: Fr)))) : Own g w ((b, ob) :: (bt, ot) :: (A ++ (e :: Fr))) := by
  have h1 : Own g w ((b, ob) :: (A ++ (e :: (bt, ot) :: Fr))) := h.sub (.cons _ (.cons_cons _ (.cons _ (List.Sublist.append (.refl _) (.cons _ (.refl _))))))
  refine h1.perm (List.Perm.cons _ ?_)
  have p1 : (e :: (bt, ot) :: Fr).Perm ((bt, ot) :: e :: Fr) := List.Perm.swap _ _ _
  exact (List.Perm.append_left A p1).trans List.perm_middle
set_option maxRecDepth 4000 in
set_option maxHeartbeats 2000000 in
theorem tarHeader_g {ea : Addr} {d : List UInt8} (R : Rdr ea d) (n : Nat) (s : R.St n) (e : TE) (he : e.name.length ≤ 100 ∧ e.link.length ≤ 100 ∧ e.data.length ≤ 100000 ∧ e.mode ≤ 100000) (hd : n + 512 ≤ d.length) (hdl : d.length ≤ 1099511627776) (hhd : (d.drop n).take 512 = tarHead e) (p0 l0 : Int) (bt : Nat) (g : World) (Fr : HL) : Gives Tryz.prog 53 #[pt bt 0] g ((bt, oC [.iface R.t R.v, .int .i64 p0, .iface R.t R.v, .int .i64 l0, .nilIface] 182) :: (R.heap n s ++ (eofB ea :: Fr))) ((_ : Nat) × { p : Int × R.St (n + 512) // p.1 = 0 ∨ p.1 = 3 }) (fun q => .tuple #[pt q.1 0, .nilIface])
    (fun q => (q.1, oC (hdrL e q.2.1.1) 124) :: (bt, oC [.iface R.t R.v, .int .i64 p0, .iface R.t R.v, .int .i64 l0, .nilIface] 182) :: (R.heap (n + 512) q.2.1.2 ++ (eofB ea :: Fr))) := by
  refine Gives.enter Tryz.func53 rfl Tryz.ntmps53 rfl ?_
  have hsz := he.2.2.1
  have hmd := he.2.2.2
  refine TC.seq ?_
  refine TC.region ?_
  refine TL.val (Yl.assign rfl) rfl ?_
  refine TL.val (Yl.assign rfl) rfl ?_
  refine TL.next ?_
  refine TC.seq ?_
  refine TC.region ?_
  refine TL.eff (Eff.alloc (zs := bV (List.replicate 512 0)) zr203 rfl) rfl fun b4 => ?_
  refine TL.next ?_
  refine TC.seq ?_
  refine TC.seq ?_
  refine TC.draws [] ((bt, oC [.iface R.t R.v, .int .i64 p0, .iface R.t R.v, .int .i64 l0, .nilIface] 182) :: Fr) mixed (by kernel_rfl) rfl (fun _ h => Own.hs h) ?_
  refine TA.pure 0 rfl (by kernel_rfl) (Yl.move rfl) rfl ?_
  refine TA.pure 1 rfl (by kernel_rfl) (Yl.nilCheckP rfl) rfl ?_
  refine TA.pure 2 rfl (by kernel_rfl) (Yl.fieldAddr (k := 110) (m := 0) (o := 0) Tryz.underlying182 rfl sz110 rfl rfl) rfl ?_
  refine TA.load 3 rfl (by kernel_rfl) (Yl.load1 (v := .iface R.t R.v) Tryz.underlying110 rfl rfl (by repeat (first | exact Foc.head | apply Foc.tail | apply Foc.right)) rfl) rfl ?_
  refine TA.pure 4 rfl (by kernel_rfl) (Yl.arr Tryz.underlying203 sz5 rfl rfl) rfl ?_
  refine TA.one 5 (by kernel_rfl) ?_
  refine Up.call rfl rfl (Cll.func (xs := [_, _]) (vs := [_, _]) Tryz.func49 rfl (by kernel_rfl) ⟨rfl, rfl, trivial⟩) rfl (Gives.of (fun _ h => Own.inA (Pulls.perm (.cons (by repeat (first | exact Pull.head | apply Pull.tail | apply Pull.right)) (.cons (by repeat (first | exact Pull.head | apply Pull.tail | apply Pull.right)) .nil))) (Own.mid (A := [_, _]) h)) (readFull_g R n s 203 (List.replicate 512 0) b4 0 512 512 (by decide) (by decide) (by rw [List.length_replicate]; decide) hd hdl (by rw [List.length_replicate]; decide) g ((bt, oC [.iface R.t R.v, .int .i64 p0, .iface R.t R.v, .int .i64 l0, .nilIface] 182) :: Fr))) (fun _ => .inr (fun _ h => Own.hs2 h)) fun q => ?_
  rw [layB_full (by rw [take_len hd, List.length_replicate]), hhd]
  refine TA.pure 6 rfl (by kernel_rfl) (Yl.move rfl) rfl ?_
  refine TA.pure 7 rfl (by kernel_rfl) (Yl.extract rfl rfl) rfl ?_
  refine TA.pure 8 rfl (by kernel_rfl) (Yl.extract rfl rfl) rfl ?_
  refine TA.pure 9 rfl (by kernel_rfl) (Yl.assign rfl) rfl ?_
  refine TA.pure 10 rfl (by kernel_rfl) (Yl.assign rfl) rfl ?_
  refine TA.next (by kernel_rfl) ?_
  refine TC.seq ?_
  refine TC.region ?_
  refine TL.val (Yl.move rfl) rfl ?_
  refine TL.val (Yl.neqNilN Tryz.underlying58 rfl rfl) rfl ?_
  refine TL.next ?_
  refine TC.no rfl ?_
  refine TC.skip_next ?_
  refine TC.seq ?_
  refine TC.seq ?_
  refine TC.region ?_
  refine TL.val (Yl.loadA (vs := bV (tarHead e)) Tryz.underlying203 rfl (by rw [bV_length, tarHead_length]; exact sz203) rfl (by repeat (first | exact Foc.head | apply Foc.tail | apply Foc.right)) (by rw [List.drop_zero, List.take_length])) rfl ?_
  refine TL.val (Yl.buildZ (zs := bV (List.replicate 512 0)) Tryz.underlying203 sz5 zr203 rfl) rfl ?_
  refine TL.val (Yl.eqlBytes (r := false) Tryz.underlying203 sz5 Tryz.underlying5 (by kernel_rfl) (tarHead_length e) List.length_replicate rfl rfl (decide_eq_false (head_ne e))) rfl ?_
  refine TL.next ?_
  refine TC.no rfl ?_
  refine TC.skip_next ?_
  refine TC.seq ?_
  refine TC.region ?_
  refine TL.quiet (Cll.func (xs := [_]) (vs := [_]) Tryz.func64 rfl (by kernel_rfl) ⟨rfl, trivial⟩) rfl (Quiet.pull (L := [(b4, _)]) (R := _) (.cons (by repeat (first | exact Pull.head | apply Pull.tail | apply Pull.right)) .nil) (format_q e b4)) ?_
  refine TL.val (Yl.assign rfl) rfl ?_
  refine TL.next ?_
  refine TC.seq ?_
  refine TC.seq ?_
  refine TC.region ?_
  refine TL.val (Yl.move rfl) rfl ?_
  refine TL.val (Yl.eql (b := false) rfl rfl rfl) rfl ?_
  refine TL.next ?_
  refine TC.no rfl ?_
  refine TC.skip_next ?_
  refine TC.seq ?_
  refine TC.region ?_
  refine TL.eff (Eff.alloc zr4 rfl) rfl fun b10 => ?_
  refine TL.skp (Skp.store1 sz4 rfl rfl rfl (by repeat (first | exact Foc.head | apply Foc.tail | apply Foc.right)) (Nat.le_of_ble_eq_true rfl) rfl) ?_
  refine TL.next ?_
  refine TC.seq ?_
  refine TC.region ?_
  refine TL.val (Yl.func (xs := []) (ys := [_, _]) (vs := []) (us := [_, _]) trivial ⟨rfl, rfl, trivial⟩) rfl ?_
  refine TL.val (Yl.assign rfl) rfl ?_
  refine TL.next ?_
  refine TC.seq ?_
  refine TC.draws [] ((b10, oC [.bool true] 4) :: (R.heap (n + 512) q ++ ((b4, oC (bV (tarHead e)) 203) :: eofB ea :: (bt, oC [.iface R.t R.v, .int .i64 p0, .iface R.t R.v, .int .i64 l0, .nilIface] 182) :: Fr))) mixed (by kernel_rfl) rfl (fun _ h => h) ?_
  refine TA.pure 0 rfl (by kernel_rfl) (Yl.idxAddrA (j := 156) (o := 156) Tryz.underlying203 sz5 rfl rfl rfl (by omega) rfl) rfl ?_
  refine TA.load 1 rfl (by kernel_rfl) (Yl.loadB (off := 156) Tryz.underlying5 rfl rfl (by repeat (first | exact Foc.head | apply Foc.tail | apply Foc.right)) rfl (fld_f1 e)) rfl ?_
  refine TA.pure 2 rfl (by kernel_rfl) (Yl.arrH (j := 100) Tryz.underlying203 sz5 rfl rfl rfl (by omega) rfl) rfl ?_
  refine TA.quiet 3 rfl (by kernel_rfl) (Cll.func (xs := [_]) (vs := [_]) Tryz.func58 rfl (by kernel_rfl) ⟨rfl, trivial⟩) rfl (Quiet.pull (L := [(b4, _)]) (R := _) (.cons (by repeat (first | exact Pull.head | apply Pull.tail | apply Pull.right)) .nil) (str_q (te := 203) (tarHead e) (padN e.name 100) b4 0 100 512 (0, 0) (fld_name e) (by rw [tarHead_length]; decide) (by rw [padN_length]; decide))) ?_
  refine TA.pure 4 rfl (by kernel_rfl) (Yl.arrLH (i := 157) (j := 257) Tryz.underlying203 sz5 rfl rfl rfl rfl rfl (by omega) (by omega) rfl) rfl ?_
  refine TA.quiet 5 rfl (by kernel_rfl) (Cll.func (xs := [_]) (vs := [_]) Tryz.func58 rfl (by kernel_rfl) ⟨rfl, trivial⟩) rfl (Quiet.pull (L := [(b4, _)]) (R := _) (.cons (by repeat (first | exact Pull.head | apply Pull.tail | apply Pull.right)) .nil) (str_q (te := 203) (tarHead e) (padN e.link 100) b4 157 100 355 (0, 0) (fld_link e) (by rw [tarHead_length]; decide) (by rw [padN_length]; decide))) ?_
  refine TA.pure 6 rfl (by kernel_rfl) (Yl.move rfl) rfl ?_
  refine TA.quiet 7 rfl (by kernel_rfl) (Cll.clo (xs := [_, _]) (vs := [_, _]) Tryz.func65 rfl (by kernel_rfl) rfl ⟨rfl, rfl, trivial⟩) rfl (Quiet.pull (L := [(b4, _), (b10, _)]) (R := _) (.cons (by repeat (first | exact Pull.head | apply Pull.tail | apply Pull.right)) (.cons (by repeat (first | exact Pull.head | apply Pull.tail | apply Pull.right)) .nil)) (num_q (tarHead e) (octD e.data.length 11) [0] 124 12 (tarHead_length e) (fld_size e) (by rw [octD_length]; rfl) (by decide) (octD_isOct _ _) (octD_ne (by decide)) (by rw [octD_length]; decide) trail0 b4 b10)) ?_
  rw [octV_octD (Nat.lt_of_le_of_lt hsz (by decide))]
  refine TA.pure 8 rfl (by kernel_rfl) (Yl.move rfl) rfl ?_
  refine TA.quiet 9 rfl (by kernel_rfl) (Cll.clo (xs := [_, _]) (vs := [_, _]) Tryz.func65 rfl (by kernel_rfl) rfl ⟨rfl, rfl, trivial⟩) rfl (Quiet.pull (L := [(b4, _), (b10, _)]) (R := _) (.cons (by repeat (first | exact Pull.head | apply Pull.tail | apply Pull.right)) (.cons (by repeat (first | exact Pull.head | apply Pull.tail | apply Pull.right)) .nil)) (num_q (tarHead e) (octD e.mode 7) [0] 100 8 (tarHead_length e) (fld_mode e) (by rw [octD_length]; rfl) (by decide) (octD_isOct _ _) (octD_ne (by decide)) (by rw [octD_length]; decide) trail0 b4 b10)) ?_
  rw [octV_octD (Nat.lt_of_le_of_lt hmd (by decide))]
  refine TA.pure 10 rfl (by kernel_rfl) (Yl.move rfl) rfl ?_
  refine TA.quiet 11 rfl (by kernel_rfl) (Cll.clo (xs := [_, _]) (vs := [_, _]) Tryz.func65 rfl (by kernel_rfl) rfl ⟨rfl, rfl, trivial⟩) rfl (Quiet.pull (L := [(b4, _), (b10, _)]) (R := _) (.cons (by repeat (first | exact Pull.head | apply Pull.tail | apply Pull.right)) (.cons (by repeat (first | exact Pull.head | apply Pull.tail | apply Pull.right)) .nil)) (num_q (tarHead e) (octD 0 7) [0] 108 8 (tarHead_length e) (fld_uid e) (by rw [octD_length]; rfl) (by decide) (octD_isOct _ _) (octD_ne (by decide)) (by rw [octD_length]; decide) trail0 b4 b10)) ?_
  rw [oct0]
  refine TA.pure 12 rfl (by kernel_rfl) (Yl.move rfl) rfl ?_
  refine TA.quiet 13 rfl (by kernel_rfl) (Cll.clo (xs := [_, _]) (vs := [_, _]) Tryz.func65 rfl (by kernel_rfl) rfl ⟨rfl, rfl, trivial⟩) rfl (Quiet.pull (L := [(b4, _), (b10, _)]) (R := _) (.cons (by repeat (first | exact Pull.head | apply Pull.tail | apply Pull.right)) (.cons (by repeat (first | exact Pull.head | apply Pull.tail | apply Pull.right)) .nil)) (num_q (tarHead e) (octD 0 7) [0] 116 8 (tarHead_length e) (fld_gid e) (by rw [octD_length]; rfl) (by decide) (octD_isOct _ _) (octD_ne (by decide)) (by rw [octD_length]; decide) trail0 b4 b10)) ?_
  rw [oct0]
  refine TA.pure 14 rfl (by kernel_rfl) (Yl.move rfl) rfl ?_
  refine TA.quiet 15 rfl (by kernel_rfl) (Cll.clo (xs := [_, _]) (vs := [_, _]) Tryz.func65 rfl (by kernel_rfl) rfl ⟨rfl, rfl, trivial⟩) rfl (Quiet.pull (L := [(b4, _), (b10, _)]) (R := _) (.cons (by repeat (first | exact Pull.head | apply Pull.tail | apply Pull.right)) (.cons (by repeat (first | exact Pull.head | apply Pull.tail | apply Pull.right)) .nil)) (num_q (tarHead e) (octD 0 11) [0] 136 12 (tarHead_length e) (fld_time e) (by rw [octD_length]; rfl) (by decide) (octD_isOct _ _) (octD_ne (by decide)) (by rw [octD_length]; decide) trail0 b4 b10)) ?_
  rw [oct0]
  refine TA.quiet 16 rfl (by kernel_rfl) (Cll.func (xs := [_, _]) (vs := [_, _]) Tryz.func67 rfl (by kernel_rfl) ⟨rfl, rfl, trivial⟩) rfl (Quiet.none (unix_q)) ?_
  refine TA.pure 17 rfl (by kernel_rfl) (Yl.build (ixs := [0, 1, 2, 3, 4, 5, 6, 9]) (vs := [_, _, _, _, _, _, _, _]) (rs := hdrL e 0) [_, _, _, _, _, _, _, _] st124 rfl ⟨rfl, rfl, rfl, rfl, rfl, rfl, rfl, rfl, trivial⟩ rfl) rfl ?_
  refine TA.one 18 (by kernel_rfl) ?_
  refine Up.eff rfl rfl (Eff.box (v := .agg ⟨hdrL e 0⟩) rfl rfl) rfl (fun _ => .inr (fun _ h => h.sub (by repeat (first | exact List.Sublist.refl _ | exact List.sublist_append_right _ _ | refine List.Sublist.cons_cons _ ?_ | refine List.Sublist.cons _ ?_)))) fun b76 => ?_
  refine TA.pure 19 rfl (by kernel_rfl) (Yl.assign rfl) rfl ?_
  refine TA.next (by kernel_rfl) ?_
  refine TC.seq ?_
  refine TC.seq ?_
  refine TC.region ?_
  refine TL.val (Yl.move rfl) rfl ?_
  refine TL.val (Yl.eql (b := false) rfl rfl rfl) rfl ?_
  refine TL.next ?_
  refine TC.no rfl ?_
  refine TC.skip_next ?_
  refine TC.seq ?_
  refine TC.draws [14, 17, 20, 23] ((b10, oC [.bool true] 4) :: (R.heap (n + 512) q ++ ((b4, oC (bV (tarHead e)) 203) :: eofB ea :: (bt, oC [.iface R.t R.v, .int .i64 p0, .iface R.t R.v, .int .i64 l0, .nilIface] 182) :: Fr))) mixed (by kernel_rfl) rfl (fun _ h => h.sub (by repeat (first | exact List.Sublist.refl _ | exact List.sublist_append_right _ _ | refine List.Sublist.cons_cons _ ?_ | refine List.Sublist.cons _ ?_))) ?_
  refine TA.pure 0 rfl (by kernel_rfl) (Yl.move rfl) rfl ?_
  refine TA.pure 1 rfl (by kernel_rfl) (Yl.move rfl) rfl ?_
  refine TA.pure 2 rfl (by kernel_rfl) (Yl.move rfl) rfl ?_
  refine TA.pure 3 rfl (by kernel_rfl) (Yl.move rfl) rfl ?_
  refine TA.pure 4 rfl (by kernel_rfl) (Yl.arrLH (i := 265) (j := 297) Tryz.underlying203 sz5 rfl rfl rfl rfl rfl (by omega) (by omega) rfl) rfl ?_
  refine TA.quiet 5 rfl (by kernel_rfl) (Cll.func (xs := [_]) (vs := [_]) Tryz.func58 rfl (by kernel_rfl) ⟨rfl, trivial⟩) rfl (Quiet.pull (L := [(b4, _)]) (R := _) (.cons (by repeat (first | exact Pull.head | apply Pull.tail | apply Pull.right)) .nil) (str_q (te := 203) (tarHead e) (List.replicate 32 0) b4 265 32 247 (0, 0) (fld_un e) (by rw [tarHead_length]; decide) (by rw [List.length_replicate]; decide))) ?_
  refine TA.pure 6 rfl (by kernel_rfl) (Yl.arrLH (i := 297) (j := 329) Tryz.underlying203 sz5 rfl rfl rfl rfl rfl (by omega) (by omega) rfl) rfl ?_
  refine TA.quiet 7 rfl (by kernel_rfl) (Cll.func (xs := [_]) (vs := [_]) Tryz.func58 rfl (by kernel_rfl) ⟨rfl, trivial⟩) rfl (Quiet.pull (L := [(b4, _)]) (R := _) (.cons (by repeat (first | exact Pull.head | apply Pull.tail | apply Pull.right)) .nil) (str_q (te := 203) (tarHead e) (List.replicate 32 0) b4 297 32 215 (0, 0) (fld_gn e) (by rw [tarHead_length]; decide) (by rw [List.length_replicate]; decide))) ?_
  refine TA.pure 8 rfl (by kernel_rfl) (Yl.move rfl) rfl ?_
  refine TA.quiet 9 rfl (by kernel_rfl) (Cll.clo (xs := [_, _]) (vs := [_, _]) Tryz.func65 rfl (by kernel_rfl) rfl ⟨rfl, rfl, trivial⟩) rfl (Quiet.pull (L := [(b4, _), (b10, _)]) (R := _) (.cons (by repeat (first | exact Pull.head | apply Pull.tail | apply Pull.right)) (.cons (by repeat (first | exact Pull.head | apply Pull.tail | apply Pull.right)) .nil)) (num_q (tarHead e) (octD 0 7) [0] 329 8 (tarHead_length e) (fld_maj e) (by rw [octD_length]; rfl) (by decide) (octD_isOct _ _) (octD_ne (by decide)) (by rw [octD_length]; decide) trail0 b4 b10)) ?_
  rw [oct0]
  refine TA.pure 10 rfl (by kernel_rfl) (Yl.move rfl) rfl ?_
  refine TA.quiet 11 rfl (by kernel_rfl) (Cll.clo (xs := [_, _]) (vs := [_, _]) Tryz.func65 rfl (by kernel_rfl) rfl ⟨rfl, rfl, trivial⟩) rfl (Quiet.pull (L := [(b4, _), (b10, _)]) (R := _) (.cons (by repeat (first | exact Pull.head | apply Pull.tail | apply Pull.right)) (.cons (by repeat (first | exact Pull.head | apply Pull.tail | apply Pull.right)) .nil)) (num_q (tarHead e) (octD 0 7) [0] 337 8 (tarHead_length e) (fld_min e) (by rw [octD_length]; rfl) (by decide) (octD_isOct _ _) (octD_ne (by decide)) (by rw [octD_length]; decide) trail0 b4 b10)) ?_
  rw [oct0]
  refine TA.pure 12 rfl (by kernel_rfl) (Yl.nilCheckP rfl) rfl ?_
  refine TA.pure 13 rfl (by kernel_rfl) (Yl.fieldAddr (k := 9) (m := 7) (o := 7) Tryz.underlying124 rfl sz9 rfl rfl) rfl ?_
  refine TA.one 14 (by kernel_rfl) ?_
  refine Up.skp rfl rfl (Skp.store1 (cs' := hdrL e 0) sz9 rfl rfl rfl (by repeat (first | exact Foc.head | apply Foc.tail | apply Foc.right)) (Nat.le_of_ble_eq_true rfl) rfl) (.inl rfl) ?_
  refine TA.pure 15 rfl (by kernel_rfl) (Yl.nilCheckP rfl) rfl ?_
  refine TA.pure 16 rfl (by kernel_rfl) (Yl.fieldAddr (k := 9) (m := 8) (o := 8) Tryz.underlying124 rfl sz9 rfl rfl) rfl ?_
  refine TA.one 17 (by kernel_rfl) ?_
  refine Up.skp rfl rfl (Skp.store1 (cs' := hdrL e 0) sz9 rfl rfl rfl (by repeat (first | exact Foc.head | apply Foc.tail | apply Foc.right)) (Nat.le_of_ble_eq_true rfl) rfl) (.inl rfl) ?_
  refine TA.pure 18 rfl (by kernel_rfl) (Yl.nilCheckP rfl) rfl ?_
  refine TA.pure 19 rfl (by kernel_rfl) (Yl.fieldAddr (k := 2) (m := 18) (o := 18) Tryz.underlying124 rfl sz2 rfl rfl) rfl ?_
  refine TA.one 20 (by kernel_rfl) ?_
  refine Up.skp rfl rfl (Skp.store1 (cs' := hdrL e 0) sz2 rfl rfl rfl (by repeat (first | exact Foc.head | apply Foc.tail | apply Foc.right)) (Nat.le_of_ble_eq_true rfl) rfl) (.inl rfl) ?_
  refine TA.pure 21 rfl (by kernel_rfl) (Yl.nilCheckP rfl) rfl ?_
  refine TA.pure 22 rfl (by kernel_rfl) (Yl.fieldAddr (k := 2) (m := 19) (o := 19) Tryz.underlying124 rfl sz2 rfl rfl) rfl ?_
  refine TA.one 23 (by kernel_rfl) ?_
  refine Up.skp rfl rfl (Skp.store1 (cs' := hdrL e 0) sz2 rfl rfl rfl (by repeat (first | exact Foc.head | apply Foc.tail | apply Foc.right)) (Nat.le_of_ble_eq_true rfl) rfl) (.inl rfl) ?_
  refine TA.next (by kernel_rfl) ?_
  refine TC.seq ?_
  refine TC.region ?_
  refine TL.val (Yl.move rfl) rfl ?_
  refine TL.val (Yl.move rfl) rfl ?_
  refine TL.val (Yl.nilCheckP rfl) rfl ?_
  refine TL.val (Yl.fieldAddr (k := 122) (m := 21) (o := 21) Tryz.underlying124 rfl sz122 rfl rfl) rfl ?_
  refine TL.skp (Skp.store1 (cs' := hdrL e 3) sz122 rfl rfl rfl (by repeat (first | exact Foc.head | apply Foc.tail | apply Foc.right)) (Nat.le_of_ble_eq_true rfl) rfl) ?_
  refine TL.next ?_
  refine TC.seq ?_
  refine TC.region ?_
  refine TL.val (Yl.assign rfl) rfl ?_
  refine TL.next ?_
  refine TC.seq ?_
  refine TC.seq ?_
  refine TC.region ?_
  refine TL.val (Yl.move rfl) rfl ?_
  refine TL.val (Yl.eql (b := false) rfl rfl rfl) rfl ?_
  refine TL.next ?_
  refine TC.no rfl ?_
  refine TC.seq ?_
  refine TC.region ?_
  refine TL.val (Yl.arrLH (i := 345) (j := 500) Tryz.underlying203 sz5 rfl rfl rfl rfl rfl (by omega) (by omega) rfl) rfl ?_
  refine TL.quiet (Cll.func (xs := [_]) (vs := [_]) Tryz.func58 rfl (by kernel_rfl) ⟨rfl, trivial⟩) rfl (Quiet.pull (L := [(b4, _)]) (R := _) (.cons (by repeat (first | exact Pull.head | apply Pull.tail | apply Pull.right)) .nil) (str_q (te := 203) (tarHead e) (List.replicate 155 0) b4 345 155 167 (0, 0) (fld_px e) (by rw [tarHead_length]; decide) (by rw [List.length_replicate]; decide))) ?_
  refine TL.val (Yl.assign rfl) rfl ?_
  refine TL.next ?_
  refine TC.seq ?_
  refine TC.seq ?_
  refine TC.region ?_
  refine TL.val (Yl.loadA (vs := bV (tarHead e)) Tryz.underlying203 rfl (by rw [bV_length, tarHead_length]; exact sz203) rfl (by repeat (first | exact Foc.head | apply Foc.tail | apply Foc.right)) (by rw [List.drop_zero, List.take_length])) rfl ?_
  refine TL.val (Yl.move rfl) rfl ?_
  refine TL.next ?_
  refine TC.block ?_
  refine TC.loopI (σ := Nat × Int) (fun p => [(4, pt b4 0), (10, pt b10 0), (12, pt b76 0), (13, vS []), (141, .agg ⟨bV (tarHead e)⟩), (142, .int .i64 (p.1 : Int))]) (fun p => (b76, oC (hdrL e p.2) 124) :: (b10, oC [.bool true] 4) :: (R.heap (n + 512) q ++ ((b4, oC (bV (tarHead e)) 203) :: eofB ea :: (bt, oC [.iface R.t R.v, .int .i64 p0, .iface R.t R.v, .int .i64 l0, .nilIface] 182) :: Fr))) (fun p => p.1 ≤ 512 ∧ (p.2 = 0 ∨ p.2 = 3)) (fun p => 512 - p.1) (0, 3) ⟨rfl, rfl, rfl, rfl, rfl, rfl, trivial⟩ (fun _ h => h) ⟨Nat.zero_le _, .inr rfl⟩ (fun p hp => ?_)
  obtain ⟨k, f⟩ := p
  obtain ⟨hk, hf⟩ := hp
  dsimp only at hk hf ⊢
  refine TC.seq ?_
  refine TC.region ?_
  refine TL.val (Yl.lss rfl rfl rfl) rfl ?_
  refine TL.next ?_
  refine TC.seq ?_
  refine TC.cond rfl (fun hc143 => ?_) (fun hc143 => ?_)
  · replace hc143 := of_decide_eq_true hc143
    refine TC.skip_next ?_
    refine TC.seq ?_
    refine TC.block ?_
    refine TC.seq ?_
    have hth := tarHead_length e
    refine TC.region ?_
    refine TL.val (Yl.idxA (j := k) Tryz.underlying203 Tryz.underlying5 rfl sz5 rfl rfl rfl (by omega) (bV_get (byteAt_get (by omega)))) rfl ?_
    refine TL.val (Yl.assign rfl) rfl ?_
    refine TL.next ?_
    refine TC.seq ?_
    by_cases h128 : 128 ≤ (byteAt (tarHead e) k).toNat
    · refine TC.region ?_
      refine TL.val (Yl.move rfl) rfl ?_
      refine TL.val (Yl.geq rfl rfl (decide_eq_true (by omega))) rfl ?_
      refine TL.next ?_
      refine TC.yes rfl ?_
      refine TC.region ?_
      refine TL.val (Yl.move rfl) rfl ?_
      refine TL.val (Yl.nilCheckP rfl) rfl ?_
      refine TL.val (Yl.fieldAddr (k := 122) (m := 21) (o := 21) Tryz.underlying124 rfl sz122 rfl rfl) rfl ?_
      refine TL.skp (Skp.store1 (cs' := hdrL e 0) sz122 rfl rfl rfl (by repeat (first | exact Foc.head | apply Foc.tail | apply Foc.right)) (Nat.le_of_ble_eq_true rfl) rfl) ?_
      refine TL.next ?_
      refine TC.region ?_
      refine TL.val (Yl.add rfl rfl (wI (by omega))) rfl ?_
      refine TL.val (Yl.move rfl) rfl ?_
      exact TL.done (Inv.again (k + 1, 0) ⟨by show k + 1 ≤ 512; omega, .inl rfl⟩ (show 512 - (k + 1) < 512 - k by omega) ⟨rfl, rfl, rfl, rfl, rfl, rfl, trivial⟩ (fun _ h => h))
    · refine TC.region ?_
      refine TL.val (Yl.move rfl) rfl ?_
      refine TL.val (Yl.geq rfl rfl (decide_eq_false (by omega))) rfl ?_
      refine TL.next ?_
      refine TC.no rfl ?_
      refine TC.skip_next ?_
      refine TC.region ?_
      refine TL.val (Yl.add rfl rfl (wI (by omega))) rfl ?_
      refine TL.val (Yl.move rfl) rfl ?_
      exact TL.done (Inv.again (k + 1, f) ⟨by show k + 1 ≤ 512; omega, hf⟩ (show 512 - (k + 1) < 512 - k by omega) ⟨rfl, rfl, rfl, rfl, rfl, rfl, trivial⟩ (fun _ h => h))
  · replace hc143 := of_decide_eq_false hc143
    refine TC.exit_next rfl ?_
    refine TC.seq ?_
    refine TC.region ?_
    refine TL.eff (Eff.lits1 [_, _, _, _, _, _, _] (vs := ([107, 115, 123, 135, 147, 336, 344] : List Nat).map fun x : Nat => Value.int .i64 (x : Int)) Tryz.underlying211 sz3 zr3 rfl ⟨rfl, rfl, rfl, rfl, rfl, rfl, rfl, trivial⟩ rfl rfl rfl) rfl fun b151 => ?_
    refine TL.val (Yl.lenL Tryz.underlying211 rfl) rfl ?_
    refine TL.val (Yl.move rfl) rfl ?_
    refine TL.next ?_
    refine TC.block ?_
    refine TC.loopI (σ := Nat × Int) (fun p => [(4, pt b4 0), (10, pt b10 0), (12, pt b76 0), (13, vS []), (151, sl b151 0 7 7), (152, .int .i64 7), (153, .int .i64 (p.1 : Int))]) (fun p => (b151, oC (([107, 115, 123, 135, 147, 336, 344] : List Nat).map fun x : Nat => Value.int .i64 (x : Int)) 3) :: (b76, oC (hdrL e p.2) 124) :: (b10, oC [.bool true] 4) :: (R.heap (n + 512) q ++ ((b4, oC (bV (tarHead e)) 203) :: eofB ea :: (bt, oC [.iface R.t R.v, .int .i64 p0, .iface R.t R.v, .int .i64 l0, .nilIface] 182) :: Fr))) (fun p => p.1 ≤ 7 ∧ (p.2 = 0 ∨ p.2 = 3)) (fun p => 7 - p.1) (0, f) ⟨rfl, rfl, rfl, rfl, rfl, rfl, rfl, trivial⟩ (fun _ h => h) ⟨Nat.zero_le _, hf⟩ (fun p hp => ?_)
    obtain ⟨k, f⟩ := p
    obtain ⟨hk, hf⟩ := hp
    dsimp only at hk hf ⊢
    refine TC.seq ?_
    refine TC.region ?_
    refine TL.val (Yl.lss rfl rfl rfl) rfl ?_
    refine TL.next ?_
    refine TC.seq ?_
    refine TC.cond rfl (fun hc154 => ?_) (fun hc154 => ?_)
    · replace hc154 := of_decide_eq_true hc154
      refine TC.skip_next ?_
      refine TC.seq ?_
      refine TC.block ?_
      refine TC.seq ?_
      have hth := tarHead_length e
      obtain ⟨x, hx, hxl⟩ : ∃ x, ([107, 115, 123, 135, 147, 336, 344] : List Nat)[k]? = some x ∧ x < 512 := by
        have h7 : k < 7 := by omega
        have : ∀ k, k < 7 → ∃ x, ([107, 115, 123, 135, 147, 336, 344] : List Nat)[k]? = some x ∧ x < 512 := by
          intro k hk
          rcases k with _ | _ | _ | _ | _ | _ | _ | k
          all_goals first | exact ⟨_, rfl, by decide⟩ | omega
        exact this k h7
      refine TC.region ?_
      refine TL.val (Yl.idxAddrS (j := k) (o := k) Tryz.underlying211 sz3 rfl rfl rfl (by omega) (by omega)) rfl ?_
      refine TL.val (Yl.load1 (v := .int .i64 (x : Int)) Tryz.underlying3 rfl rfl (by repeat (first | exact Foc.head | apply Foc.tail | apply Foc.right)) (by rw [List.getElem?_map, hx]; rfl)) rfl ?_
      refine TL.val (Yl.assign rfl) rfl ?_
      refine TL.next ?_
      refine TC.seq ?_
      by_cases hx0 : (byteAt (tarHead e) x).toNat ≠ 0
      · refine TC.region ?_
        refine TL.val (Yl.move rfl) rfl ?_
        refine TL.val (Yl.idxAddrA (j := x) (o := x) Tryz.underlying203 sz5 rfl rfl rfl hxl (by omega)) rfl ?_
        refine TL.val (Yl.loadB (off := x) Tryz.underlying5 rfl rfl (by repeat (first | exact Foc.head | apply Foc.tail | apply Foc.right)) rfl (byteAt_get (by omega))) rfl ?_
        refine TL.val (Yl.neq rfl rfl (decide_eq_true (by omega))) rfl ?_
        refine TL.next ?_
        refine TC.yes rfl ?_
        refine TC.region ?_
        refine TL.val (Yl.move rfl) rfl ?_
        refine TL.val (Yl.nilCheckP rfl) rfl ?_
        refine TL.val (Yl.fieldAddr (k := 122) (m := 21) (o := 21) Tryz.underlying124 rfl sz122 rfl rfl) rfl ?_
        refine TL.skp (Skp.store1 (cs' := hdrL e 0) sz122 rfl rfl rfl (by repeat (first | exact Foc.head | apply Foc.tail | apply Foc.right)) (Nat.le_of_ble_eq_true rfl) rfl) ?_
        refine TL.next ?_
        refine TC.region ?_
        refine TL.val (Yl.add rfl rfl (wI (by omega))) rfl ?_
        refine TL.val (Yl.move rfl) rfl ?_
        exact TL.done (Inv.again (k + 1, 0) ⟨by show k + 1 ≤ 7; omega, .inl rfl⟩ (show 7 - (k + 1) < 7 - k by omega) ⟨rfl, rfl, rfl, rfl, rfl, rfl, rfl, trivial⟩ (fun _ h => h))
      · refine TC.region ?_
        refine TL.val (Yl.move rfl) rfl ?_
        refine TL.val (Yl.idxAddrA (j := x) (o := x) Tryz.underlying203 sz5 rfl rfl rfl hxl (by omega)) rfl ?_
        refine TL.val (Yl.loadB (off := x) Tryz.underlying5 rfl rfl (by repeat (first | exact Foc.head | apply Foc.tail | apply Foc.right)) rfl (byteAt_get (by omega))) rfl ?_
        refine TL.val (Yl.neq rfl rfl (decide_eq_false (by omega))) rfl ?_
        refine TL.next ?_
        refine TC.no rfl ?_
        refine TC.skip_next ?_
        refine TC.region ?_
        refine TL.val (Yl.add rfl rfl (wI (by omega))) rfl ?_
        refine TL.val (Yl.move rfl) rfl ?_
        exact TL.done (Inv.again (k + 1, f) ⟨by show k + 1 ≤ 7; omega, hf⟩ (show 7 - (k + 1) < 7 - k by omega) ⟨rfl, rfl, rfl, rfl, rfl, rfl, rfl, trivial⟩ (fun _ h => h))
    · replace hc154 := of_decide_eq_false hc154
      refine TC.exit_next rfl ?_
      refine TC.seq ?_
      refine TC.seq ?_
      refine TC.region ?_
      refine TL.val (Yl.move rfl) rfl ?_
      refine TL.val (Yl.neqS (r := false) rfl rfl rfl) rfl ?_
      refine TL.next ?_
      refine TC.no rfl ?_
      refine TC.skip_next ?_
      refine TC.seq ?_
      refine TC.seq ?_
      refine TC.region ?_
      refine TL.val (Yl.load1 (v := .bool true) Tryz.underlying4 rfl rfl (by repeat (first | exact Foc.head | apply Foc.tail | apply Foc.right)) rfl) rfl ?_
      refine TL.val (Yl.not (b := true) rfl) rfl ?_
      refine TL.next ?_
      refine TC.no rfl ?_
      refine TC.skip_next ?_
      refine TC.seq ?_
      refine TC.region ?_
      refine TL.val (Yl.move rfl) rfl ?_
      refine TL.val (Yl.assign rfl) rfl ?_
      refine TL.val (Yl.assign rfl) rfl ?_
      refine TL.next ?_
      exact TC.back2 ⟨b76, ⟨(f, q), hf⟩⟩ rfl rfl rfl rfl (fun _ h => Own.hdr h)
end Go.Proofs.YtlhncphipfkkjaaGreatDoor

namespace Go.Proofs.YtlhncphipfkkjaaGreatDoor
open Go
theorem Own.hdr0 {g w : World} {b4 bt : Nat} {o4 ot : Obj} {A Fr : HL} {e : Nat × Obj} (h : Own g w (A ++ ((b4, o4) :: e :: (bt, ot) :: Fr))) : Own g w ((bt, ot) :: (A ++ (e :: Fr))) := by
  have h1 : Own g w (A ++ (e :: (bt, ot) :: Fr)) := h.sub (List.Sublist.append (.refl _) (.cons _ (.refl _)))
  have p1 : (e :: (bt, ot) :: Fr).Perm ((bt, ot) :: e :: Fr) := List.Perm.swap _ _ _
  exact h1.perm ((List.Perm.append_left A p1).trans List.perm_middle)
set_option maxHeartbeats 1000000 in
theorem tarEnd_g {ea : Addr} {d : List UInt8} (R : Rdr ea d) (n : Nat) (s : R.St n) (hd : n + 1024 ≤ d.length) (hdl : d.length ≤ 1099511627776) (hz : (d.drop n).take 512 = List.replicate 512 0) (hz2 : (d.drop (n + 512)).take 512 = List.replicate 512 0) (p0 l0 : Int) (bt : Nat) (g : World) (Fr : HL) : Gives Tryz.prog 53 #[pt bt 0] g ((bt, oC [.iface R.t R.v, .int .i64 p0, .iface R.t R.v, .int .i64 l0, .nilIface] 182) :: (R.heap n s ++ (eofB ea :: Fr))) (R.St (n + 512 + 512)) (fun _ => .tuple #[.pointer none, eofV ea])
    (fun q => (bt, oC [.iface R.t R.v, .int .i64 p0, .iface R.t R.v, .int .i64 l0, .nilIface] 182) :: (R.heap (n + 512 + 512) q ++ (eofB ea :: Fr))) := by
  refine Gives.enter Tryz.func53 rfl Tryz.ntmps53 rfl ?_
  refine TC.seq ?_
  refine TC.region ?_
  refine TL.val (Yl.assign rfl) rfl ?_
  refine TL.val (Yl.assign rfl) rfl ?_
  refine TL.next ?_
  refine TC.seq ?_
  refine TC.region ?_
  refine TL.eff (Eff.alloc (zs := bV (List.replicate 512 0)) zr203 rfl) rfl fun b4 => ?_
  refine TL.next ?_
  refine TC.seq ?_
  refine TC.seq ?_
  refine TC.draws [] ((bt, oC [.iface R.t R.v, .int .i64 p0, .iface R.t R.v, .int .i64 l0, .nilIface] 182) :: Fr) mixed (by kernel_rfl) rfl (fun _ h => Own.hs h) ?_
  refine TA.pure 0 rfl (by kernel_rfl) (Yl.move rfl) rfl ?_
  refine TA.pure 1 rfl (by kernel_rfl) (Yl.nilCheckP rfl) rfl ?_
  refine TA.pure 2 rfl (by kernel_rfl) (Yl.fieldAddr (k := 110) (m := 0) (o := 0) Tryz.underlying182 rfl sz110 rfl rfl) rfl ?_
  refine TA.load 3 rfl (by kernel_rfl) (Yl.load1 (v := .iface R.t R.v) Tryz.underlying110 rfl rfl (by repeat (first | exact Foc.head | apply Foc.tail | apply Foc.right)) rfl) rfl ?_
  refine TA.pure 4 rfl (by kernel_rfl) (Yl.arr Tryz.underlying203 sz5 rfl rfl) rfl ?_
  refine TA.one 5 (by kernel_rfl) ?_
  refine Up.call rfl rfl (Cll.func (xs := [_, _]) (vs := [_, _]) Tryz.func49 rfl (by kernel_rfl) ⟨rfl, rfl, trivial⟩) rfl (Gives.of (fun _ h => Own.inA (Pulls.perm (.cons (by repeat (first | exact Pull.head | apply Pull.tail | apply Pull.right)) (.cons (by repeat (first | exact Pull.head | apply Pull.tail | apply Pull.right)) .nil))) (Own.mid (A := [_, _]) h)) (readFull_g R n s 203 (List.replicate 512 0) b4 0 512 512 (by decide) (by decide) (by rw [List.length_replicate]; decide) (by omega) hdl (by rw [List.length_replicate]; decide) g ((bt, oC [.iface R.t R.v, .int .i64 p0, .iface R.t R.v, .int .i64 l0, .nilIface] 182) :: Fr))) (fun _ => .inr (fun _ h => Own.hs2 h)) fun q => ?_
  rw [layB_full (by rw [take_len (by omega), List.length_replicate]), hz]
  refine TA.pure 6 rfl (by kernel_rfl) (Yl.move rfl) rfl ?_
  refine TA.pure 7 rfl (by kernel_rfl) (Yl.extract rfl rfl) rfl ?_
  refine TA.pure 8 rfl (by kernel_rfl) (Yl.extract rfl rfl) rfl ?_
  refine TA.pure 9 rfl (by kernel_rfl) (Yl.assign rfl) rfl ?_
  refine TA.pure 10 rfl (by kernel_rfl) (Yl.assign rfl) rfl ?_
  refine TA.next (by kernel_rfl) ?_
  refine TC.seq ?_
  refine TC.region ?_
  refine TL.val (Yl.move rfl) rfl ?_
  refine TL.val (Yl.neqNilN Tryz.underlying58 rfl rfl) rfl ?_
  refine TL.next ?_
  refine TC.no rfl ?_
  refine TC.skip_next ?_
  refine TC.seq ?_
  refine TC.seq ?_
  refine TC.region ?_
  refine TL.val (Yl.loadA (vs := bV (List.replicate 512 0)) Tryz.underlying203 rfl (by rw [bV_length, List.length_replicate]; exact sz203) rfl (by repeat (first | exact Foc.head | apply Foc.tail | apply Foc.right)) (by rw [List.drop_zero, List.take_length])) rfl ?_
  refine TL.val (Yl.buildZ (zs := bV (List.replicate 512 0)) Tryz.underlying203 sz5 zr203 rfl) rfl ?_
  refine TL.val (Yl.eqlBytes (r := true) Tryz.underlying203 sz5 Tryz.underlying5 (by kernel_rfl) List.length_replicate List.length_replicate rfl rfl (decide_eq_true rfl)) rfl ?_
  refine TL.next ?_
  refine TC.yes rfl ?_
  refine TC.seq ?_
  refine TC.seq ?_
  refine TC.draws [] ((bt, oC [.iface R.t R.v, .int .i64 p0, .iface R.t R.v, .int .i64 l0, .nilIface] 182) :: Fr) mixed (by kernel_rfl) rfl (fun _ h => Own.hs2 h) ?_
  refine TA.pure 0 rfl (by kernel_rfl) (Yl.move rfl) rfl ?_
  refine TA.pure 1 rfl (by kernel_rfl) (Yl.nilCheckP rfl) rfl ?_
  refine TA.pure 2 rfl (by kernel_rfl) (Yl.fieldAddr (k := 110) (m := 0) (o := 0) Tryz.underlying182 rfl sz110 rfl rfl) rfl ?_
  refine TA.load 3 rfl (by kernel_rfl) (Yl.load1 (v := .iface R.t R.v) Tryz.underlying110 rfl rfl (by repeat (first | exact Foc.head | apply Foc.tail | apply Foc.right)) rfl) rfl ?_
  refine TA.pure 4 rfl (by kernel_rfl) (Yl.arr Tryz.underlying203 sz5 rfl rfl) rfl ?_
  refine TA.one 5 (by kernel_rfl) ?_
  refine Up.call rfl rfl (Cll.func (xs := [_, _]) (vs := [_, _]) Tryz.func49 rfl (by kernel_rfl) ⟨rfl, rfl, trivial⟩) rfl (readFull_g R (n + 512) q 203 (List.replicate 512 0) b4 0 512 512 (by decide) (by decide) (by rw [List.length_replicate]; decide) (by omega) hdl (by rw [List.length_replicate]; decide) g ((bt, oC [.iface R.t R.v, .int .i64 p0, .iface R.t R.v, .int .i64 l0, .nilIface] 182) :: Fr)) (fun _ => .inr (fun _ h => Own.hs2 h)) fun q2 => ?_
  rw [layB_full (by rw [take_len (by omega), List.length_replicate]), hz2]
  refine TA.pure 6 rfl (by kernel_rfl) (Yl.move rfl) rfl ?_
  refine TA.pure 7 rfl (by kernel_rfl) (Yl.extract rfl rfl) rfl ?_
  refine TA.pure 8 rfl (by kernel_rfl) (Yl.extract rfl rfl) rfl ?_
  refine TA.pure 9 rfl (by kernel_rfl) (Yl.assign rfl) rfl ?_
  refine TA.pure 10 rfl (by kernel_rfl) (Yl.assign rfl) rfl ?_
  refine TA.next (by kernel_rfl) ?_
  refine TC.seq ?_
  refine TC.region ?_
  refine TL.val (Yl.move rfl) rfl ?_
  refine TL.val (Yl.neqNilN Tryz.underlying58 rfl rfl) rfl ?_
  refine TL.next ?_
  refine TC.no rfl ?_
  refine TC.skip_next ?_
  refine TC.seq ?_
  refine TC.seq ?_
  refine TC.region ?_
  refine TL.val (Yl.loadA (vs := bV (List.replicate 512 0)) Tryz.underlying203 rfl (by rw [bV_length, List.length_replicate]; exact sz203) rfl (by repeat (first | exact Foc.head | apply Foc.tail | apply Foc.right)) (by rw [List.drop_zero, List.take_length])) rfl ?_
  refine TL.val (Yl.buildZ (zs := bV (List.replicate 512 0)) Tryz.underlying203 sz5 zr203 rfl) rfl ?_
  refine TL.val (Yl.eqlBytes (r := true) Tryz.underlying203 sz5 Tryz.underlying5 (by kernel_rfl) List.length_replicate List.length_replicate rfl rfl (decide_eq_true rfl)) rfl ?_
  refine TL.next ?_
  refine TC.yes rfl ?_
  refine TC.seq ?_
  refine TC.draws [] _ mixed (by kernel_rfl) rfl (fun _ h => h) ?_
  refine TA.load 0 rfl (by kernel_rfl) (Yl.load1 (v := eofV ea) Tryz.underlying58 rfl rfl (by repeat (first | exact Foc.head | apply Foc.tail | apply Foc.right)) rfl) rfl ?_
  refine TA.pure 1 rfl (by kernel_rfl) (Yl.assign rfl) rfl ?_
  refine TA.pure 2 rfl (by kernel_rfl) (Yl.assign rfl) rfl ?_
  refine TA.next (by kernel_rfl) ?_
  exact TC.back2 q2 rfl rfl rfl rfl (fun _ h => Own.hdr0 h)
end Go.Proofs.YtlhncphipfkkjaaGreatDoor

namespace Go.Proofs.YtlhncphipfkkjaaGreatDoor
open Go
/-- no more than is left of the limit -/
def Lk (left m : Nat) : Type := { k : Nat // 1 ≤ k ∧ k ≤ m ∧ k ≤ left }
theorem limRead_g {ea : Addr} {d : List UInt8} (R : Rdr ea d) (hdl : d.length ≤ 1099511627776) (n left : Nat) (s : R.St n) (hl : 0 < left) (hd : n + left ≤ d.length) (te : TypeId) (l : List UInt8) (bp off m cap : Nat) (hm : 0 < m) (hcap : m ≤ cap) (hle : off + m ≤ l.length) (bl : Nat) (g : World) (Fr : HL) : Gives Tryz.prog 187 #[pt bl 0, sl bp off m cap] g ((bl, oC [.iface R.t R.v, .int .i64 (left : Int)] 231) :: (R.heap n s ++ ((bp, oC (bV l) te) :: eofB ea :: Fr))) ((k : Lk left m) × R.St (n + k.1)) (fun q => .tuple #[.int .i64 (q.1.1 : Int), .nilIface])
    (fun q => (bl, oC [.iface R.t R.v, .int .i64 ((left - q.1.1 : Nat) : Int)] 231) :: (R.heap (n + q.1.1) q.2 ++ ((bp, oC (bV (layB l off ((d.drop n).take q.1.1))) te) :: eofB ea :: Fr))) := by
  refine Gives.enter Tryz.func187 rfl Tryz.ntmps187 rfl ?_
  refine TC.seq ?_
  refine TC.region ?_
  refine TL.val (Yl.assign rfl) rfl ?_
  refine TL.val (Yl.assign rfl) rfl ?_
  refine TL.next ?_
  refine TC.seq ?_
  refine TC.seq ?_
  refine TC.region ?_
  refine TL.val (Yl.move rfl) rfl ?_
  refine TL.val (Yl.nilCheckP rfl) rfl ?_
  refine TL.val (Yl.fieldAddr (k := 2) (m := 1) (o := 1) Tryz.underlying231 rfl sz2 rfl rfl) rfl ?_
  refine TL.val (Yl.load1 (v := .int .i64 (left : Int)) Tryz.underlying2 rfl rfl (by repeat (first | exact Foc.head | apply Foc.tail | apply Foc.right)) rfl) rfl ?_
  refine TL.val (Yl.leq rfl rfl (decide_eq_false (by omega))) rfl ?_
  refine TL.next ?_
  refine TC.no rfl ?_
  refine TC.skip_next ?_
  refine TC.seq ?_
  refine TC.seq ?_
  by_cases hml : left < m
  · refine TC.region ?_
    refine TL.val (Yl.move rfl) rfl ?_
    refine TL.val (Yl.lenL Tryz.underlying40 rfl) rfl ?_
    refine TL.val (Yl.move rfl) rfl ?_
    refine TL.val (Yl.nilCheckP rfl) rfl ?_
    refine TL.val (Yl.fieldAddr (k := 2) (m := 1) (o := 1) Tryz.underlying231 rfl sz2 rfl rfl) rfl ?_
    refine TL.val (Yl.load1 (v := .int .i64 (left : Int)) Tryz.underlying2 rfl rfl (by repeat (first | exact Foc.head | apply Foc.tail | apply Foc.right)) rfl) rfl ?_
    refine TL.val (Yl.gtr rfl rfl (decide_eq_true (by omega))) rfl ?_
    refine TL.next ?_
    refine TC.yes rfl ?_
    refine TC.region ?_
    refine TL.val (Yl.move rfl) rfl ?_
    refine TL.val (Yl.move rfl) rfl ?_
    refine TL.val (Yl.nilCheckP rfl) rfl ?_
    refine TL.val (Yl.fieldAddr (k := 2) (m := 1) (o := 1) Tryz.underlying231 rfl sz2 rfl rfl) rfl ?_
    refine TL.val (Yl.load1 (v := .int .i64 (left : Int)) Tryz.underlying2 rfl rfl (by repeat (first | exact Foc.head | apply Foc.tail | apply Foc.right)) rfl) rfl ?_
    refine TL.val (Yl.slcLH (i := 0) (j := left) Tryz.underlying40 sz5 rfl rfl rfl rfl rfl (by omega) (by omega)) rfl ?_
    rw [show adv off cap 0 1 = off by unfold adv; split <;> simp, Nat.sub_zero, Nat.sub_zero]
    refine TL.val (Yl.assign rfl) rfl ?_
    refine TL.next ?_
    refine TC.seq ?_
    refine TC.region ?_
    refine TL.val (Yl.move rfl) rfl ?_
    refine TL.val (Yl.nilCheckP rfl) rfl ?_
    refine TL.val (Yl.fieldAddr (k := 110) (m := 0) (o := 0) Tryz.underlying231 rfl sz110 rfl rfl) rfl ?_
    refine TL.val (Yl.load1 (v := .iface R.t R.v) Tryz.underlying110 rfl rfl (by repeat (first | exact Foc.head | apply Foc.tail | apply Foc.right)) rfl) rfl ?_
    refine TL.val (Yl.move rfl) rfl ?_
    refine TL.call (Cll.inv (xs := [_]) (vs := [_]) R.hf R.hb R.hn R.hm rfl ⟨rfl, trivial⟩) rfl (Gives.of (fun _ h => Own.inA (A := R.heap n s) (Pulls.perm (.cons (by repeat (first | exact Pull.head | apply Pull.tail | apply Pull.right)) (.cons (by repeat (first | exact Pull.head | apply Pull.tail | apply Pull.right)) .nil))) (Own.mid (A := [_]) h)) (R.read n s (by omega) te l bp off left cap (by omega) (by omega) (by omega) g ((bl, oC [.iface R.t R.v, .int .i64 (left : Int)] 231) :: Fr))) fun q => ?_
    have hk1 := q.1.2.1
    have hk2 := q.1.2.2.1
    have hk3 := q.1.2.2.2
    refine TL.val (Yl.move rfl) rfl ?_
    refine TL.val (Yl.extract rfl rfl) rfl ?_
    refine TL.val (Yl.extract rfl rfl) rfl ?_
    refine TL.val (Yl.assign rfl) rfl ?_
    refine TL.val (Yl.assign rfl) rfl ?_
    refine TL.next ?_
    refine TC.seq ?_
    refine TC.region ?_
    refine TL.val (Yl.move rfl) rfl ?_
    refine TL.val (Yl.nilCheckP rfl) rfl ?_
    refine TL.val (Yl.fieldAddr (k := 2) (m := 1) (o := 1) Tryz.underlying231 rfl sz2 rfl rfl) rfl ?_
    refine TL.val (Yl.load1 (v := .int .i64 (left : Int)) Tryz.underlying2 rfl rfl (by repeat (first | exact Foc.head | apply Foc.tail | apply Foc.right)) rfl) rfl ?_
    refine TL.val (Yl.move rfl) rfl ?_
    refine TL.val (Yl.sub (r := ((left - q.1.1 : Nat) : Int)) rfl rfl ((wI (by omega)).trans (by omega))) rfl ?_
    refine TL.val (Yl.nilCheckP rfl) rfl ?_
    refine TL.val (Yl.fieldAddr (k := 2) (m := 1) (o := 1) Tryz.underlying231 rfl sz2 rfl rfl) rfl ?_
    refine TL.skp (Skp.store1 (cs' := [.iface R.t R.v, .int .i64 ((left - q.1.1 : Nat) : Int)]) sz2 rfl rfl rfl (by repeat (first | exact Foc.head | apply Foc.tail | apply Foc.right)) (Nat.le_of_ble_eq_true rfl) rfl) ?_
    refine TL.next ?_
    exact TC.back2 ⟨⟨q.1.1, hk1, by omega, by omega⟩, q.2⟩ rfl rfl rfl rfl (fun _ h => Own.mid (A := R.heap (n + q.1.1) q.2) (H1 := [(bl, _)]) (Own.inA (Pulls.perm (.cons (by repeat (first | exact Pull.head | apply Pull.tail | apply Pull.right)) .nil)) h))
  · refine TC.region ?_
    refine TL.val (Yl.move rfl) rfl ?_
    refine TL.val (Yl.lenL Tryz.underlying40 rfl) rfl ?_
    refine TL.val (Yl.move rfl) rfl ?_
    refine TL.val (Yl.nilCheckP rfl) rfl ?_
    refine TL.val (Yl.fieldAddr (k := 2) (m := 1) (o := 1) Tryz.underlying231 rfl sz2 rfl rfl) rfl ?_
    refine TL.val (Yl.load1 (v := .int .i64 (left : Int)) Tryz.underlying2 rfl rfl (by repeat (first | exact Foc.head | apply Foc.tail | apply Foc.right)) rfl) rfl ?_
    refine TL.val (Yl.gtr rfl rfl (decide_eq_false (by omega))) rfl ?_
    refine TL.next ?_
    refine TC.no rfl ?_
    refine TC.skip_next ?_
    refine TC.seq ?_
    refine TC.region ?_
    refine TL.val (Yl.move rfl) rfl ?_
    refine TL.val (Yl.nilCheckP rfl) rfl ?_
    refine TL.val (Yl.fieldAddr (k := 110) (m := 0) (o := 0) Tryz.underlying231 rfl sz110 rfl rfl) rfl ?_
    refine TL.val (Yl.load1 (v := .iface R.t R.v) Tryz.underlying110 rfl rfl (by repeat (first | exact Foc.head | apply Foc.tail | apply Foc.right)) rfl) rfl ?_
    refine TL.val (Yl.move rfl) rfl ?_
    refine TL.call (Cll.inv (xs := [_]) (vs := [_]) R.hf R.hb R.hn R.hm rfl ⟨rfl, trivial⟩) rfl (Gives.of (fun _ h => Own.inA (A := R.heap n s) (Pulls.perm (.cons (by repeat (first | exact Pull.head | apply Pull.tail | apply Pull.right)) (.cons (by repeat (first | exact Pull.head | apply Pull.tail | apply Pull.right)) .nil))) (Own.mid (A := [_]) h)) (R.read n s (by omega) te l bp off m cap (by omega) (by omega) (by omega) g ((bl, oC [.iface R.t R.v, .int .i64 (left : Int)] 231) :: Fr))) fun q => ?_
    have hk1 := q.1.2.1
    have hk2 := q.1.2.2.1
    have hk3 := q.1.2.2.2
    refine TL.val (Yl.move rfl) rfl ?_
    refine TL.val (Yl.extract rfl rfl) rfl ?_
    refine TL.val (Yl.extract rfl rfl) rfl ?_
    refine TL.val (Yl.assign rfl) rfl ?_
    refine TL.val (Yl.assign rfl) rfl ?_
    refine TL.next ?_
    refine TC.seq ?_
    refine TC.region ?_
    refine TL.val (Yl.move rfl) rfl ?_
    refine TL.val (Yl.nilCheckP rfl) rfl ?_
    refine TL.val (Yl.fieldAddr (k := 2) (m := 1) (o := 1) Tryz.underlying231 rfl sz2 rfl rfl) rfl ?_
    refine TL.val (Yl.load1 (v := .int .i64 (left : Int)) Tryz.underlying2 rfl rfl (by repeat (first | exact Foc.head | apply Foc.tail | apply Foc.right)) rfl) rfl ?_
    refine TL.val (Yl.move rfl) rfl ?_
    refine TL.val (Yl.sub (r := ((left - q.1.1 : Nat) : Int)) rfl rfl ((wI (by omega)).trans (by omega))) rfl ?_
    refine TL.val (Yl.nilCheckP rfl) rfl ?_
    refine TL.val (Yl.fieldAddr (k := 2) (m := 1) (o := 1) Tryz.underlying231 rfl sz2 rfl rfl) rfl ?_
    refine TL.skp (Skp.store1 (cs' := [.iface R.t R.v, .int .i64 ((left - q.1.1 : Nat) : Int)]) sz2 rfl rfl rfl (by repeat (first | exact Foc.head | apply Foc.tail | apply Foc.right)) (Nat.le_of_ble_eq_true rfl) rfl) ?_
    refine TL.next ?_
    exact TC.back2 ⟨⟨q.1.1, hk1, by omega, by omega⟩, q.2⟩ rfl rfl rfl rfl (fun _ h => Own.mid (A := R.heap (n + q.1.1) q.2) (H1 := [(bl, _)]) (Own.inA (Pulls.perm (.cons (by repeat (first | exact Pull.head | apply Pull.tail | apply Pull.right)) .nil)) h))
theorem limEof_q {ea : Addr} {d : List UInt8} (R : Rdr ea d) (bl : Nat) (p : Value) : Quiet Tryz.prog 187 #[pt bl 0, p] [(bl, oC [.iface R.t R.v, .int .i64 (0)] 231), eofB ea] (.tuple #[.int .i64 0, eofV ea]) := by
  refine Quiet.of_gives fun g Fr => ?_
  refine Gives.enter Tryz.func187 rfl Tryz.ntmps187 rfl ?_
  refine TC.seq ?_
  refine TC.region ?_
  refine TL.val (Yl.assign rfl) rfl ?_
  refine TL.val (Yl.assign rfl) rfl ?_
  refine TL.next ?_
  refine TC.seq ?_
  refine TC.seq ?_
  refine TC.region ?_
  refine TL.val (Yl.move rfl) rfl ?_
  refine TL.val (Yl.nilCheckP rfl) rfl ?_
  refine TL.val (Yl.fieldAddr (k := 2) (m := 1) (o := 1) Tryz.underlying231 rfl sz2 rfl rfl) rfl ?_
  refine TL.val (Yl.load1 (v := .int .i64 0) Tryz.underlying2 rfl rfl (by repeat (first | exact Foc.head | apply Foc.tail | apply Foc.right)) rfl) rfl ?_
  refine TL.val (Yl.leq (b := true) rfl rfl rfl) rfl ?_
  refine TL.next ?_
  refine TC.yes rfl ?_
  refine TC.seq ?_
  refine TC.draws [] _ mixed (by kernel_rfl) rfl (fun _ h => h) ?_
  refine TA.load 0 rfl (by kernel_rfl) (Yl.load1 (v := eofV ea) Tryz.underlying58 rfl rfl (by repeat (first | exact Foc.head | apply Foc.tail | apply Foc.right)) rfl) rfl ?_
  refine TA.pure 1 rfl (by kernel_rfl) (Yl.assign rfl) rfl ?_
  refine TA.pure 2 rfl (by kernel_rfl) (Yl.assign rfl) rfl ?_
  refine TA.next (by kernel_rfl) ?_
  exact TC.back2 () rfl rfl rfl rfl (fun _ h => h)
end Go.Proofs.YtlhncphipfkkjaaGreatDoor
