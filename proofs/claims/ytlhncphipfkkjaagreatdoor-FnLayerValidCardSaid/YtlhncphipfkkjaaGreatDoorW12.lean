/- The contracts of computeLayer and of strings.Join; conditions: the layer's bytes are such a tar, compressed. -/
import Derived.Test.YtlhncphipfkkjaaGreatDoorW11
namespace Go.Proofs.YtlhncphipfkkjaaGreatDoor
open Go
theorem St.to {n : Nat} {D : List Deferred} {F F' : FL} {g : World} {H H' : HL} {a : Act} {w : World} (h : St n D F g H a w) (hs : FSub F F') (hH : ∀ w, Own g w H → Own g w H') : St n D F' g H' a w :=
  ⟨h.size, h.defers, fun i v hi => h.frame i v (hs.spec i v hi), hH w h.own⟩
theorem TC.use {P : Program} {Q : Exit → Act → World → Prop} {n : Nat} {D : List Deferred} {F : FL} {g : World} {H : HL} {c : Code} {a : Act} {w : World} (hst : St n D F g H a w) (h : TC P Q n D g c F H) : c.wp P Q a w := h a w hst
theorem tarNext_g {ea : Addr} {d : List UInt8} (R : Rdr ea d) (hdl : d.length ≤ 1099511627776) (n left pad : Nat) (s : R.St n) (hl : left ≤ 30000) (hp : pad ≤ 30000) (e : TE) (hg : e.good) (hd : n + left + pad + 512 ≤ d.length) (hhd : (d.drop (n + left + pad)).take 512 = tarHead e) (bt : Nat) (g : World) (Fr : HL) :
    Gives Tryz.prog 35 #[pt bt 0] g ((bt, oC [.iface R.t R.v, .int .i64 (pad : Int), .iface R.t R.v, .int .i64 (left : Int), .nilIface] 182) :: (R.heap n s ++ (eofB ea :: Fr))) ((_ : Nat) × Int × R.St (n + left + pad + 512)) (fun q => .tuple #[pt q.1 0, .nilIface])
      (fun q => (q.1, oC (hdrL e q.2.1) 124) :: (bt, oC [.iface R.t R.v, .int .i64 ((padLen e.data.length : Nat) : Int), .iface R.t R.v, .int .i64 ((e.data.length : Nat) : Int), .nilIface] 182) :: (R.heap (n + left + pad + 512) q.2.2 ++ (eofB ea :: Fr))) := by
  obtain ⟨⟨h1, h2, h3, h4, h5⟩, _, h6⟩ := hg
  have he : e.name.length ≤ 100 ∧ e.link.length ≤ 100 ∧ e.data.length ≤ 100000 ∧ e.mode ≤ 100000 := ⟨by omega, by omega, by omega, by omega⟩
  rcases h5 with h5 | h5 | h5
  · exact tarNext48_g R hdl n left pad s hl hp e h5 he hd hhd bt g Fr
  · have h7 : e.data = [] := h6.resolve_left (by rw [h5]; decide)
    have := tarNext50_g R hdl n left pad s hl hp e h5 he hd hhd bt g Fr
    rw [h7]; exact this
  · have h7 : e.data = [] := h6.resolve_left (by rw [h5]; decide)
    have := tarNext53_g R hdl n left pad s hl hp e h5 he hd hhd bt g Fr
    rw [h7]; exact this
noncomputable def R1 (ea : Addr) {z : List UInt8} (e : SlE z) (bb : Nat) (hs : z.length ≤ 1099511627776) : Rdr ea z := bytR ea z e.l bb e.b e.off e.cap (0, 0) e.h1 e.h2 e.h3 hs
noncomputable def R2 (ea : Addr) {z : List UInt8} (e : SlE z) (bb : Nat) (hs : z.length ≤ 1099511627776) (d : List UInt8) (c : Nat) (hc : 0 < c) (hcm : c ≤ 60000) (hdl : d.length ≤ 1099511627776) (bg : Nat) : Rdr ea d := gzRd (R1 ea e bb hs) d c hc hcm hs hdl bg
noncomputable def R3 (ea : Addr) {z : List UInt8} (e : SlE z) (bb : Nat) (hs : z.length ≤ 1099511627776) (d : List UInt8) (c : Nat) (hc : 0 < c) (hcm : c ≤ 60000) (hdl : d.length ≤ 1099511627776) (bg bt bh : Nat) : Rdr ea d := teeR (R2 ea e bb hs d c hc hcm hdl bg) hdl bt bh
theorem perm_gz {A F : HL} {x y z : Nat × Obj} : (x :: (A ++ (y :: z :: F))).Perm (x :: y :: z :: (A ++ F)) := (List.perm_append_comm_assoc A [y, z] F).cons x
theorem heap34 {g w : World} {bt e bm : Nat × Obj} {S1 S2 R F : HL} (h : Own g w ((bt :: (S2 ++ R)) ++ (e :: bm :: (S1 ++ F)))) : Own g w (S1 ++ (S2 ++ (e :: F))) := by
  have h1 : Own g w ((S2 ++ [e]) ++ (S1 ++ F)) := h.sub (by
    simp only [List.cons_append, List.append_assoc, List.nil_append]
    exact List.Sublist.cons _ (List.Sublist.append (.refl _) ((List.Sublist.cons_cons _ (.cons _ (.refl _))).trans (List.sublist_append_right _ _))))
  have h2 := h1.perm (List.perm_append_comm_assoc (S2 ++ [e]) S1 F)
  simp only [List.append_assoc, List.cons_append, List.nil_append] at h2
  exact h2
def mapT (es : List TE) : List (List UInt8 × Value) := es.map fun e => (e.name, .agg ⟨[]⟩)
theorem mapT_take {es : List TE} {k : Nat} {e : TE} (h : es[k]? = some e) : mapT (es.take (k + 1)) = mapT (es.take k) ++ [(e.name, .agg ⟨[]⟩)] := by
  obtain ⟨hlt, rfl⟩ := List.getElem?_eq_some_iff.1 h
  rw [List.take_succ_eq_append_getElem hlt, mapT, List.map_append]; rfl
theorem mapT_new {es : List TE} {k : Nat} {e : TE} (h : es[k]? = some e) (hn : (es.map TE.name).Nodup) : ∀ p ∈ mapT (es.take k), p.1 ≠ e.name := by
  obtain ⟨hlt, rfl⟩ := List.getElem?_eq_some_iff.1 h
  intro p hp he
  obtain ⟨x, hx, rfl⟩ := List.mem_map.1 hp
  obtain ⟨j, hj, hjx⟩ := List.mem_take_iff_getElem.1 hx
  have h1 : j < es.length := by omega
  have h2 := List.pairwise_iff_getElem.1 hn j k (by rw [List.length_map]; omega) (by rw [List.length_map]; omega) (by omega)
  simp only [List.getElem_map] at h2
  rw [hjx] at h2
  exact h2 he
theorem gzC0 {ea : Addr} {z : List UInt8} (R : Rdr ea z) (d : List UInt8) : gzC R d 0 0 false false = [.iface R.t R.v, .slice none 0 0, .int .u32 0, .int .u32 0, .int .i64 0, .bool false, .nilIface] := by
  have h1 : (crcN (d.take 0)).toNat = 0 := by rw [List.take_zero]; decide
  have h2 : (toU32 ((0 : Nat) : Int)).toNat = 0 := by decide
  unfold gzC
  rw [h1, h2]; rfl
def clC (z d : List UInt8) : List Value := hashV (sumH z) ++ [.int .i64 (z.length : Int)] ++ hashV (sumH d) ++ hashV (sumH d) ++ [.int .i64 (d.length : Int)]
/-- what the walk of computeLayer is told of the tar d -/
structure TarOf (es : List TE) (d : List UInt8) : Prop where
  good : ∀ e ∈ es, e.good
  nodup : (es.map TE.name).Nodup
  len : es.length ≤ 8
  head : ∀ k e, es[k]? = some e → (d.drop (posT es k)).take 512 = tarHead e ∧ posT es k + 512 ≤ d.length
  fin : (d.drop (posT es es.length)).take 512 = List.replicate 512 0 ∧ (d.drop (posT es es.length + 512)).take 512 = List.replicate 512 0
  dlen : d.length = posT es es.length + 1024
  small : d.length ≤ 20000
theorem heap19 {m b e : Nat × Obj} {R X : HL} : (m :: b :: (R ++ (e :: X))).Perm (b :: (R ++ (e :: m :: X))) :=
  (List.Perm.swap b m _).trans (List.Perm.cons b (by
    have h1 : (m :: (R ++ (e :: X))).Perm (R ++ (m :: e :: X)) := List.perm_middle.symm
    exact h1.trans (List.Perm.append_left R (List.Perm.swap e m X))))
theorem compute_g (ea : Addr) (dg df m : List UInt8) (n0 : Nat) (es : List TE) (z d r : List UInt8) (c : Nat) (hc : 0 < c) (hcm : c ≤ 60000) (ht : TarOf es d) (hz : z = gzHead ++ r) (hok : GzOk z d c 0 0 10 false false) (hzs : z.length ≤ 1000000000) (g : World) (Fr : HL) :
    Gives Tryz.prog 26 #[.iface 56 (.agg ⟨saidL dg df n0 m z d⟩)] g (eofB ea :: Fr) Nat (fun b => .tuple #[pt b 0, .nilIface]) (fun b => (b, oC (clC z d) 80) :: eofB ea :: Fr) := by
  refine Gives.enterD Tryz.func26 rfl Tryz.ntmps26 rfl ?_
  have hdl : d.length ≤ 1099511627776 := by have := ht.small; omega
  have hzl : z.length ≤ 1099511627776 := by omega
  have hz0 : 0 < z.length := by rw [hz, List.length_append]; show 0 < 10 + _; omega
  refine TC.seq ?_
  refine TC.region ?_
  refine TL.val (Yl.assign rfl) rfl ?_
  refine TL.val (Yl.assign rfl) rfl ?_
  refine TL.next ?_
  refine TC.seq ?_
  refine TC.region ?_
  refine TL.val (Yl.move rfl) rfl ?_
  refine TL.call (Cll.inv (xs := []) (vs := []) Tryz.func122 rfl (by kernel_rfl) (m56Compressed _) rfl trivial) rfl (compressed_g dg df m z d n0 g _) fun b1 => ?_
  refine TL.val (Yl.move rfl) rfl ?_
  refine TL.val (Yl.extract rfl rfl) rfl ?_
  refine TL.val (Yl.extract rfl rfl) rfl ?_
  refine TL.val (Yl.assign rfl) rfl ?_
  refine TL.val (Yl.assign rfl) rfl ?_
  refine TL.next ?_
  refine TC.seq ?_
  refine TC.seq ?_
  refine TC.region ?_
  refine TL.val (Yl.move rfl) rfl ?_
  refine TL.val (Yl.neqNilN Tryz.underlying58 rfl rfl) rfl ?_
  refine TL.next ?_
  refine TC.no rfl ?_
  refine TC.skip_next ?_
  refine TC.seq ?_
  refine TC.region ?_
  refine TL.val (Yl.move rfl) rfl ?_
  refine TL.call (Cll.func (xs := [_]) (vs := [_]) Tryz.func29 rfl (by kernel_rfl) ⟨rfl, trivial⟩) rfl (ioReadAll_g z hz0 hzs b1 ea g Fr) fun e => ?_
  refine TL.val (Yl.move rfl) rfl ?_
  refine TL.val (Yl.extract rfl rfl) rfl ?_
  refine TL.val (Yl.extract rfl rfl) rfl ?_
  refine TL.val (Yl.assign rfl) rfl ?_
  refine TL.val (Yl.assign rfl) rfl ?_
  refine TL.next ?_
  refine TC.seq ?_
  refine TC.seq ?_
  refine TC.region ?_
  refine TL.val (Yl.move rfl) rfl ?_
  refine TL.val (Yl.neqNilN Tryz.underlying58 rfl rfl) rfl ?_
  refine TL.next ?_
  refine TC.no rfl ?_
  refine TC.skip_next ?_
  refine TC.seq ?_
  refine TC.region ?_
  refine TL.val (Yl.move rfl) rfl ?_
  refine TL.val (Yl.lenL Tryz.underlying40 rfl) rfl ?_
  refine TL.val (Yl.assign rfl) rfl ?_
  refine TL.next ?_
  refine TC.seq ?_
  refine TC.region ?_
  refine TL.call (Cll.func (xs := []) (vs := []) Tryz.func30 rfl (by kernel_rfl) trivial) rfl (new256_g g _) fun q => ?_
  obtain ⟨bh, q0⟩ := q
  dsimp only
  refine TL.val (Yl.assign rfl) rfl ?_
  refine TL.next ?_
  refine TC.seq ?_
  refine TC.region ?_
  refine TL.val (Yl.move rfl) rfl ?_
  refine TL.val (Yl.move rfl) rfl ?_
  refine TL.call (Cll.inv (xs := [_]) (vs := [_]) Tryz.func179 rfl (by kernel_rfl) (m166Write _) rfl ⟨rfl, trivial⟩) rfl (write2_g (te := 5) [] z z e.l rfl q0 bh e.b e.off z.length e.cap (0, 0) e.h3 rfl (by show 0 + z.length ≤ _; omega) g (eofB ea :: Fr)) fun r1 => ?_
  refine TL.next ?_
  refine TC.seq ?_
  refine TC.seq ?_
  refine TC.region ?_
  refine TL.val (Yl.move rfl) rfl ?_
  refine TL.quiet (Cll.inv (xs := []) (vs := []) Tryz.func196 rfl (by kernel_rfl) (m281Close _) rfl trivial) rfl (Quiet.none (close_q b1)) ?_
  refine TL.val (Yl.assign rfl) rfl ?_
  refine TL.next ?_
  refine TC.seq ?_
  refine TC.region ?_
  refine TL.val (Yl.move rfl) rfl ?_
  refine TL.val (Yl.neqNilN Tryz.underlying58 rfl rfl) rfl ?_
  refine TL.next ?_
  refine TC.no rfl ?_
  refine TC.skip_next ?_
  refine TC.seq ?_
  refine TC.region ?_
  refine TL.val (Yl.move rfl) rfl ?_
  refine TL.call (Cll.func (xs := [_]) (vs := [_]) Tryz.func32 rfl (by kernel_rfl) ⟨rfl, trivial⟩) rfl (newBytes_g e.b e.off z.length e.cap g _) fun bb => ?_
  refine TL.val (Yl.iface Tryz.underlying107 rfl rfl) rfl ?_
  refine TL.call (Cll.func (xs := [_]) (vs := [_]) Tryz.func31 rfl (by kernel_rfl) ⟨rfl, trivial⟩) rfl (Gives.of (fun _ h => h.perm perm_gz) (newGz_g (R1 ea e bb hzl) () r hz hzl g (ShaAt bh z r1.1 ++ Fr))) fun q => ?_
  obtain ⟨bg, s10⟩ := q
  dsimp only
  refine TL.heap (H' := (R2 ea e bb hzl d c hc hcm hdl bg).heap 0 ⟨0, 10, false, false, s10, hok⟩ ++ (eofB ea :: (ShaAt bh z r1.1 ++ Fr))) (fun _ h => by
    show Own g _ (((bg, oC (gzC (R1 ea e bb hzl) d 0 0 false false) 171) :: (R1 ea e bb hzl).heap 10 s10) ++ _)
    rw [gzC0]; exact h) ?_
  refine TL.val (Yl.move rfl) rfl ?_
  refine TL.val (Yl.extract rfl rfl) rfl ?_
  refine TL.val (Yl.extract rfl rfl) rfl ?_
  refine TL.val (Yl.assign rfl) rfl ?_
  refine TL.val (Yl.assign rfl) rfl ?_
  refine TL.next ?_
  refine TC.seq ?_
  refine TC.seq ?_
  refine TC.region ?_
  refine TL.val (Yl.move rfl) rfl ?_
  refine TL.val (Yl.neqNilN Tryz.underlying58 rfl rfl) rfl ?_
  refine TL.next ?_
  refine TC.no rfl ?_
  refine TC.skip_next ?_
  refine TC.seq ?_
  refine TC.region ?_
  refine TL.call (Cll.func (xs := []) (vs := []) Tryz.func30 rfl (by kernel_rfl) trivial) rfl (new256_g g _) fun q => ?_
  obtain ⟨bh2, q2⟩ := q
  dsimp only
  refine TL.val (Yl.assign rfl) rfl ?_
  refine TL.next ?_
  refine TC.seq ?_
  refine TC.region ?_
  refine TL.val (Yl.move rfl) rfl ?_
  refine TL.val (Yl.iface Tryz.underlying104 rfl rfl) rfl ?_
  refine TL.val (Yl.move rfl) rfl ?_
  refine TL.call (Cll.func (xs := [_, _]) (vs := [_, _]) Tryz.func33 rfl (by kernel_rfl) ⟨rfl, rfl, trivial⟩) rfl (newTee_g (R2 ea e bb hzl d c hc hcm hdl bg) bh2 g _) fun bt => ?_
  refine TL.heap (H' := (R3 ea e bb hzl d c hc hcm hdl bg bt bh2).heap 0 (q2, ⟨0, 10, false, false, s10, hok⟩) ++ (eofB ea :: (ShaAt bh z r1.1 ++ Fr))) (fun _ h => by
    show Own g _ (((bt, _) :: (ShaAt bh2 [] q2.1 ++ (R2 ea e bb hzl d c hc hcm hdl bg).heap 0 _)) ++ _)
    rw [List.cons_append, List.append_assoc]; exact h) ?_
  refine TL.val (Yl.assign rfl) rfl ?_
  refine TL.next ?_
  refine TC.seq ?_
  refine TC.region ?_
  refine TL.val (Yl.move rfl) rfl ?_
  refine TL.call (Cll.func (xs := [_]) (vs := [_]) Tryz.func34 rfl (by kernel_rfl) ⟨rfl, trivial⟩) rfl (newTar_g (R3 ea e bb hzl d c hc hcm hdl bg bt bh2) g _) fun br => ?_
  refine TL.val (Yl.assign rfl) rfl ?_
  refine TL.next ?_
  refine TC.seq ?_
  refine TC.region ?_
  refine TL.eff (Eff.newMap) rfl fun b71 => ?_
  refine TL.val (Yl.assign rfl) rfl ?_
  refine TL.next ?_
  refine TC.seq ?_
  refine TC.block ?_
  refine TC.loopI (σ := (Nat × Nat × Nat) × ((n : Nat) × (R3 ea e bb hzl d c hc hcm hdl bg bt bh2).St n)) (fun p => [(0, .iface 56 (.agg ⟨saidL dg df n0 m z d⟩)), (7, .int .i64 (z.length : Int)), (8, .iface 166 (pt bh 0)), (10, pt bg 0), (11, .iface 166 (pt bh2 0)), (12, .iface 176 (pt bt 0)), (13, pt br 0), (14, .map (some b71))]) (fun p => (br, oC [.iface (R3 ea e bb hzl d c hc hcm hdl bg bt bh2).t (R3 ea e bb hzl d c hc hcm hdl bg bt bh2).v, .int .i64 (p.1.2.2 : Int), .iface (R3 ea e bb hzl d c hc hcm hdl bg bt bh2).t (R3 ea e bb hzl d c hc hcm hdl bg bt bh2).v, .int .i64 (p.1.2.1 : Int), .nilIface] 182) :: ((R3 ea e bb hzl d c hc hcm hdl bg bt bh2).heap p.2.1 p.2.2 ++ (eofB ea :: (b71, mapO (mapT (es.take p.1.1))) :: (ShaAt bh z r1.1 ++ Fr)))) (fun p => p.1.1 ≤ es.length ∧ p.1.2.1 ≤ 30000 ∧ p.1.2.2 ≤ 30000 ∧ p.2.1 + p.1.2.1 + p.1.2.2 = posT es p.1.1) (fun p => es.length - p.1.1) ((0, 0, 0), ⟨0, (q2, ⟨0, 10, false, false, s10, hok⟩)⟩) ⟨rfl, rfl, rfl, rfl, rfl, rfl, rfl, rfl, trivial⟩ (fun _ h => h.perm heap19) ⟨Nat.zero_le _, Nat.zero_le _, Nat.zero_le _, rfl⟩ (fun p hp => ?_)
  obtain ⟨⟨k, left, pad⟩, n, st⟩ := p
  obtain ⟨hk, hl, hp, hpos⟩ := hp
  dsimp only at hk hl hp hpos ⊢
  refine TC.block ?_
  refine TC.seq ?_
  by_cases hlt : k < es.length
  · obtain ⟨en, hen⟩ : ∃ en, es[k]? = some en := ⟨es[k]'hlt, List.getElem?_eq_getElem hlt⟩
    have hgood := ht.good en (List.mem_of_getElem? hen)
    have hdata := hgood.1.2.2.1
    have hname := cut0_name hgood.2.1 (by have := hgood.1.1; omega)
    have hhead := ht.head k en hen
    rw [← hpos] at hhead
    refine TC.region ?_
    refine TL.val (Yl.move rfl) rfl ?_
    refine TL.call (Cll.func (xs := [_]) (vs := [_]) Tryz.func35 rfl (by kernel_rfl) ⟨rfl, trivial⟩) rfl (tarNext_g (R3 ea e bb hzl d c hc hcm hdl bg bt bh2) hdl n left pad st hl hp en hgood hhead.2 hhead.1 br g _) fun q => ?_
    refine TL.val (Yl.move rfl) rfl ?_
    refine TL.val (Yl.extract rfl rfl) rfl ?_
    refine TL.val (Yl.extract rfl rfl) rfl ?_
    refine TL.val (Yl.assign rfl) rfl ?_
    refine TL.val (Yl.assign rfl) rfl ?_
    refine TL.next ?_
    refine TC.seq ?_
    refine TC.seq ?_
    refine TC.region ?_
    refine TL.val (Yl.move rfl) rfl ?_
    refine TL.val (Yl.load1 (v := eofV ea) Tryz.underlying58 rfl rfl (by repeat (first | exact Foc.head | apply Foc.tail | apply Foc.right)) rfl) rfl ?_
    refine TL.val (Yl.eqlN Tryz.underlying58 rfl rfl) rfl ?_
    refine TL.next ?_
    refine TC.no rfl ?_
    refine TC.skip_next ?_
    refine TC.seq ?_
    refine TC.seq ?_
    refine TC.region ?_
    refine TL.val (Yl.move rfl) rfl ?_
    refine TL.val (Yl.neqNilN Tryz.underlying58 rfl rfl) rfl ?_
    refine TL.next ?_
    refine TC.no rfl ?_
    refine TC.skip_next ?_
    refine TC.seq ?_
    refine TC.seq ?_
    refine TC.region ?_
    refine TL.val (Yl.move rfl) rfl ?_
    refine TL.val (Yl.move rfl) rfl ?_
    refine TL.val (Yl.nilCheckP rfl) rfl ?_
    refine TL.val (Yl.fieldAddr (k := 9) (m := 1) (o := 1) Tryz.underlying124 rfl sz9 rfl rfl) rfl ?_
    refine TL.val (Yl.load1 (v := vS en.name) Tryz.underlying9 rfl rfl (by repeat (first | exact Foc.head | apply Foc.tail | apply Foc.right)) (congrArg (fun x => some (vS x)) hname)) rfl ?_
    refine TL.val (Yl.lookNo Tryz.underlying114 Tryz.underlying9 zr118 rfl rfl (by repeat (first | exact Foc.head | apply Foc.tail | apply Foc.right)) (mapT_new hen ht.nodup)) rfl ?_
    refine TL.val (Yl.move rfl) rfl ?_
    refine TL.val (Yl.extract rfl rfl) rfl ?_
    refine TL.val (Yl.extract rfl rfl) rfl ?_
    refine TL.eff (Eff.alloc zr118 rfl) rfl fun b17 => ?_
    refine TL.skp (Skp.storeA (vs := []) sz118 rfl rfl rfl (by repeat (first | exact Foc.head | apply Foc.tail | apply Foc.right)) (Nat.le_of_ble_eq_true rfl) rfl) ?_
    refine TL.val (Yl.assign rfl) rfl ?_
    refine TL.next ?_
    refine TC.seq ?_
    refine TC.region ?_
    refine TL.val (Yl.move rfl) rfl ?_
    refine TL.next ?_
    refine TC.no rfl ?_
    refine TC.skip_next ?_
    refine TC.region ?_
    refine TL.val (Yl.move rfl) rfl ?_
    refine TL.val (Yl.move rfl) rfl ?_
    refine TL.val (Yl.nilCheckP rfl) rfl ?_
    refine TL.val (Yl.fieldAddr (k := 9) (m := 1) (o := 1) Tryz.underlying124 rfl sz9 rfl rfl) rfl ?_
    refine TL.val (Yl.load1 (v := vS en.name) Tryz.underlying9 rfl rfl (by repeat (first | exact Foc.head | apply Foc.tail | apply Foc.right)) (congrArg (fun x => some (vS x)) hname)) rfl ?_
    refine TL.val (Yl.build (ixs := []) (vs := []) (rs := []) [] st118 rfl trivial rfl) rfl ?_
    refine TL.skp (Skp.mapNew Tryz.underlying114 Tryz.underlying9 rfl rfl rfl (by repeat (first | exact Foc.head | apply Foc.tail | apply Foc.right)) (mapT_new hen ht.nodup)) ?_
    exact TL.done (Inv.again ((k + 1, en.data.length, padLen en.data.length), ⟨n + left + pad + 512, q.2.2⟩) ⟨by show k + 1 ≤ es.length; omega, by show en.data.length ≤ 30000; omega, by show padLen en.data.length ≤ 30000; unfold padLen; omega, by show n + left + pad + 512 + en.data.length + padLen en.data.length = posT es (k + 1); rw [posT_succ hen, hpos]; omega⟩ (by show es.length - (k + 1) < es.length - k; omega) ⟨rfl, rfl, rfl, rfl, rfl, rfl, rfl, rfl, trivial⟩ (fun _ h => by show Own g _ (_ :: (_ ++ (_ :: (b71, mapO (mapT (es.take (k + 1)))) :: _))); rw [mapT_take hen]; exact h.sub (.cons _ (.cons _ (.refl _)))))
  · obtain rfl : k = es.length := by omega
    have hdd := ht.dlen
    have hfin := ht.fin
    rw [← hpos] at hdd hfin
    refine TC.region ?_
    refine TL.val (Yl.move rfl) rfl ?_
    refine TL.call (Cll.func (xs := [_]) (vs := [_]) Tryz.func35 rfl (by kernel_rfl) ⟨rfl, trivial⟩) rfl (tarNextEnd_g (R3 ea e bb hzl d c hc hcm hdl bg bt bh2) hdl n left pad st hl hp (by omega) hfin.1 hfin.2 br g _) fun q => ?_
    refine TL.val (Yl.move rfl) rfl ?_
    refine TL.val (Yl.extract rfl rfl) rfl ?_
    refine TL.val (Yl.extract rfl rfl) rfl ?_
    refine TL.val (Yl.assign rfl) rfl ?_
    refine TL.val (Yl.assign rfl) rfl ?_
    refine TL.next ?_
    refine TC.seq ?_
    refine TC.seq ?_
    refine TC.region ?_
    refine TL.val (Yl.move rfl) rfl ?_
    refine TL.val (Yl.load1 (v := eofV ea) Tryz.underlying58 rfl rfl (by repeat (first | exact Foc.head | apply Foc.tail | apply Foc.right)) rfl) rfl ?_
    refine TL.val (Yl.eqlP Tryz.underlying58 Tryz.underlying94 (SizeIs.of (n := 1) (by kernel_rfl)) (by kernel_rfl) rfl rfl) rfl ?_
    refine TL.next ?_
    refine TC.yes rfl ?_
    refine TC.exit_next rfl ?_
    refine TC.seq ?_
    refine TC.seq ?_
    refine TC.region ?_
    refine TL.val (Yl.move rfl) rfl ?_
    refine TL.call (Cll.func (xs := [_]) (vs := [_]) Tryz.func36 rfl (by kernel_rfl) ⟨rfl, trivial⟩) rfl (Gives.of (fun _ h => h.sub (.cons _ (.refl _))) (drain_g (R3 ea e bb hzl d c hc hcm hdl bg bt bh2) (n + left + pad + 512 + 512) q (by omega) hdl g _)) fun qd => ?_
    refine TL.val (Yl.move rfl) rfl ?_
    refine TL.val (Yl.extract rfl rfl) rfl ?_
    refine TL.val (Yl.extract rfl rfl) rfl ?_
    refine TL.val (Yl.assign rfl) rfl ?_
    refine TL.val (Yl.assign rfl) rfl ?_
    refine TL.next ?_
    refine TC.seq ?_
    refine TC.region ?_
    refine TL.val (Yl.move rfl) rfl ?_
    refine TL.val (Yl.neqNilN Tryz.underlying58 rfl rfl) rfl ?_
    refine TL.next ?_
    refine TC.no rfl ?_
    refine TC.skip_next ?_
    refine TC.seq ?_
    refine TC.seq ?_
    refine TC.region ?_
    refine TL.val (Yl.move rfl) rfl ?_
    refine TL.quiet (Cll.func (xs := [_]) (vs := [_]) Tryz.func37 rfl (by kernel_rfl) ⟨rfl, trivial⟩) rfl (Quiet.none (gzClose_q _)) ?_
    refine TL.val (Yl.assign rfl) rfl ?_
    refine TL.next ?_
    refine TC.seq ?_
    refine TC.region ?_
    refine TL.val (Yl.move rfl) rfl ?_
    refine TL.val (Yl.neqNilN Tryz.underlying58 rfl rfl) rfl ?_
    refine TL.next ?_
    refine TC.no rfl ?_
    refine TC.skip_next ?_
    refine TC.mid (fun a w => ∃ b22 : Nat, St 159 [] [(0, .iface 56 (.agg ⟨saidL dg df n0 m z d⟩)), (7, .int .i64 (z.length : Int)), (11, .iface 166 (pt bh2 0)), (22, pt b22 0)] g ((b22, oC (hashV (sumH z)) 53) :: (ShaAt bh2 (d.take d.length) qd.1.1 ++ (eofB ea :: Fr))) a w) ?_ ?_
    · refine TC.heap (H' := ShaAt bh z r1.1 ++ (ShaAt bh2 (d.take d.length) qd.1.1 ++ (eofB ea :: Fr))) (fun _ h => heap34 h) ?_
      refine TC.draws [11] Fr mixed (by kernel_rfl) rfl (fun _ h => h.sub (by repeat (first | exact List.Sublist.refl _ | exact List.sublist_append_right _ _ | refine List.Sublist.cons_cons _ ?_ | refine List.Sublist.append (List.Sublist.refl _) ?_ | refine List.Sublist.cons _ ?_ | refine List.Sublist.trans ?_ (List.sublist_append_right _ _)))) ?_
      refine TA.pure 0 rfl (by kernel_rfl) (Yl.move rfl) rfl ?_
      refine TA.pure 1 rfl (by kernel_rfl) (Yl.move rfl) rfl ?_
      refine TA.quiet 2 rfl (by kernel_rfl) (Cll.inv (xs := []) (vs := []) Tryz.func177 rfl (by kernel_rfl) (m166Size _) rfl trivial) rfl (Quiet.none (size_q bh)) ?_
      refine TA.pure 4 rfl (by kernel_rfl) (Yl.func (xs := [_]) (ys := []) (vs := [_]) (us := []) ⟨rfl, trivial⟩ trivial) rfl ?_
      refine TA.pure 5 rfl (by kernel_rfl) (Yl.nilCheckM rfl (a166Sum bh)) rfl ?_
      refine TA.pure 6 rfl (by kernel_rfl) (Yl.move rfl) rfl ?_
      refine TA.two 3 10 (by kernel_rfl) ?_ ?_
      · refine Up.eff rfl rfl (Eff.makeB (i := 0) (j := 32) Tryz.underlying40 sz5 by5 zr5 rfl rfl rfl rfl (by omega) (by omega)) rfl (fun _ => .inr (fun _ h => h.sub (by repeat (first | exact List.Sublist.refl _ | exact List.sublist_append_right _ _ | refine List.Sublist.cons_cons _ ?_ | refine List.Sublist.append (List.Sublist.refl _) ?_ | refine List.Sublist.cons _ ?_ | refine List.Sublist.trans ?_ (List.sublist_append_right _ _))))) fun b116 => ?_
        refine TA.two 7 10 (by kernel_rfl) ?_ ?_
        · refine Up.call rfl rfl (Cll.inv (xs := [_]) (vs := [_]) Tryz.func178 rfl (by kernel_rfl) (m166Sum _) rfl ⟨rfl, trivial⟩) rfl (Gives.of (fun _ h => h.perm (List.perm_append_comm_assoc [(b116, _)] (ShaAt bh z r1.1) (ShaAt bh2 (d.take d.length) qd.1.1 ++ (eofB ea :: Fr)))) (sumSha_g z [] r1 (sl b116 0 0 32) [(b116, _)] (SlB.mk (n := 0) (by omega) (by rw [List.length_replicate]; omega) rfl) (by first | (simp only [List.length_take]; omega) | omega) (by decide) bh g ((ShaAt bh2 (d.take d.length) qd.1.1 ++ (eofB ea :: Fr))))) (fun _ => .inr (fun _ h => h.sub (by repeat (first | exact List.Sublist.refl _ | exact List.sublist_append_right _ _ | refine List.Sublist.cons_cons _ ?_ | refine List.Sublist.append (List.Sublist.refl _) ?_ | refine List.Sublist.cons _ ?_ | refine List.Sublist.trans ?_ (List.sublist_append_right _ _))))) fun u => ?_
          refine TA.two 8 10 (by kernel_rfl) ?_ ?_
          · refine Up.call rfl rfl (Cll.func (xs := [_]) (vs := [_]) Tryz.func38 rfl (by kernel_rfl) ⟨rfl, trivial⟩) rfl ((hexHex_q ([] ++ dig z) u.1.1 u.1.2 u.2 (by rw [List.nil_append, dig_length]; omega)).gives ?hx34) (fun _ => .inr (fun _ h => h.sub (by repeat (first | exact List.Sublist.refl _ | exact List.sublist_append_right _ _ | refine List.Sublist.cons_cons _ ?_ | refine List.Sublist.append (List.Sublist.refl _) ?_ | refine List.Sublist.cons _ ?_ | refine List.Sublist.trans ?_ (List.sublist_append_right _ _))))) fun _ => ?_
            case hx34 => exact (fun _ h => h.sub (List.sublist_append_left _ _))
            rw [show hexB ([] ++ dig z) = sumH z from hexB_sum z]
            refine TA.pure 9 rfl (by kernel_rfl) (Yl.build (ixs := [0, 1]) (vs := [_, _]) (rs := [_, _]) [_, _] st53 rfl ⟨rfl, rfl, trivial⟩ rfl) rfl ?_
            refine TA.one 10 (by kernel_rfl) ?_
            refine Up.eff rfl rfl (Eff.alloc zr53 rfl) rfl (fun _ => .inr (fun _ h => h.sub (by repeat (first | exact List.Sublist.refl _ | exact List.sublist_append_right _ _ | refine List.Sublist.cons_cons _ ?_ | refine List.Sublist.append (List.Sublist.refl _) ?_ | refine List.Sublist.cons _ ?_ | refine List.Sublist.trans ?_ (List.sublist_append_right _ _))))) fun b22 => ?_
            refine TA.one 11 (by kernel_rfl) ?_
            refine Up.skp rfl rfl (Skp.storeA (vs := hashV (sumH z)) sz53 rfl rfl rfl (by repeat (first | exact Foc.head | apply Foc.tail | apply Foc.right)) (Nat.le_of_ble_eq_true rfl) rfl) (.inl rfl) ?_
            exact TA.done (by kernel_rfl) (fun _ _ h => ⟨b22, h.to ⟨rfl, rfl, rfl, rfl, trivial⟩ (fun _ h => h.sub (by repeat (first | exact List.Sublist.refl _ | exact List.sublist_append_right _ _ | refine List.Sublist.cons_cons _ ?_ | refine List.Sublist.append (List.Sublist.refl _) ?_ | refine List.Sublist.cons _ ?_ | refine List.Sublist.trans ?_ (List.sublist_append_right _ _))))⟩)
          · refine Up.eff rfl rfl (Eff.alloc zr53 rfl) rfl (fun _ => .inr (fun _ h => h.sub (by repeat (first | exact List.Sublist.refl _ | exact List.sublist_append_right _ _ | refine List.Sublist.cons_cons _ ?_ | refine List.Sublist.append (List.Sublist.refl _) ?_ | refine List.Sublist.cons _ ?_ | refine List.Sublist.trans ?_ (List.sublist_append_right _ _))))) fun b22 => ?_
            refine TA.one 8 (by kernel_rfl) ?_
            refine Up.call rfl rfl (Cll.func (xs := [_]) (vs := [_]) Tryz.func38 rfl (by kernel_rfl) ⟨rfl, trivial⟩) rfl ((hexHex_q ([] ++ dig z) u.1.1 u.1.2 u.2 (by rw [List.nil_append, dig_length]; omega)).gives ?hx34) (fun _ => .inr (fun _ h => h.sub (by repeat (first | exact List.Sublist.refl _ | exact List.sublist_append_right _ _ | refine List.Sublist.cons_cons _ ?_ | refine List.Sublist.append (List.Sublist.refl _) ?_ | refine List.Sublist.cons _ ?_ | refine List.Sublist.trans ?_ (List.sublist_append_right _ _))))) fun _ => ?_
            case hx34 => exact (fun _ h => h.sub (.cons _ (List.sublist_append_left _ _)))
            rw [show hexB ([] ++ dig z) = sumH z from hexB_sum z]
            refine TA.pure 9 rfl (by kernel_rfl) (Yl.build (ixs := [0, 1]) (vs := [_, _]) (rs := [_, _]) [_, _] st53 rfl ⟨rfl, rfl, trivial⟩ rfl) rfl ?_
            refine TA.one 11 (by kernel_rfl) ?_
            refine Up.skp rfl rfl (Skp.storeA (vs := hashV (sumH z)) sz53 rfl rfl rfl (by repeat (first | exact Foc.head | apply Foc.tail | apply Foc.right)) (Nat.le_of_ble_eq_true rfl) rfl) (.inl rfl) ?_
            exact TA.done (by kernel_rfl) (fun _ _ h => ⟨b22, h.to ⟨rfl, rfl, rfl, rfl, trivial⟩ (fun _ h => h.sub (by repeat (first | exact List.Sublist.refl _ | exact List.sublist_append_right _ _ | refine List.Sublist.cons_cons _ ?_ | refine List.Sublist.append (List.Sublist.refl _) ?_ | refine List.Sublist.cons _ ?_ | refine List.Sublist.trans ?_ (List.sublist_append_right _ _))))⟩)
        · refine Up.eff rfl rfl (Eff.alloc zr53 rfl) rfl (fun _ => .inr (fun _ h => h.sub (by repeat (first | exact List.Sublist.refl _ | exact List.sublist_append_right _ _ | refine List.Sublist.cons_cons _ ?_ | refine List.Sublist.append (List.Sublist.refl _) ?_ | refine List.Sublist.cons _ ?_ | refine List.Sublist.trans ?_ (List.sublist_append_right _ _))))) fun b22 => ?_
          refine TA.one 7 (by kernel_rfl) ?_
          refine Up.call rfl rfl (Cll.inv (xs := [_]) (vs := [_]) Tryz.func178 rfl (by kernel_rfl) (m166Sum _) rfl ⟨rfl, trivial⟩) rfl (Gives.of (fun _ h => h.perm ((List.perm_append_comm_assoc [(b22, _), (b116, _)] (ShaAt bh z r1.1) (ShaAt bh2 (d.take d.length) qd.1.1 ++ (eofB ea :: Fr))).trans (List.Perm.append_left _ (List.Perm.swap _ _ _)))) (sumSha_g z [] r1 (sl b116 0 0 32) [(b116, _)] (SlB.mk (n := 0) (by omega) (by rw [List.length_replicate]; omega) rfl) (by first | (simp only [List.length_take]; omega) | omega) (by decide) bh g ((b22, _) :: (ShaAt bh2 (d.take d.length) qd.1.1 ++ (eofB ea :: Fr))))) (fun _ => .inr (fun _ h => h.sub (by repeat (first | exact List.Sublist.refl _ | exact List.sublist_append_right _ _ | refine List.Sublist.cons_cons _ ?_ | refine List.Sublist.append (List.Sublist.refl _) ?_ | refine List.Sublist.cons _ ?_ | refine List.Sublist.trans ?_ (List.sublist_append_right _ _))))) fun u => ?_
          refine TA.one 8 (by kernel_rfl) ?_
          refine Up.call rfl rfl (Cll.func (xs := [_]) (vs := [_]) Tryz.func38 rfl (by kernel_rfl) ⟨rfl, trivial⟩) rfl ((hexHex_q ([] ++ dig z) u.1.1 u.1.2 u.2 (by rw [List.nil_append, dig_length]; omega)).gives ?hx34) (fun _ => .inr (fun _ h => h.sub (by repeat (first | exact List.Sublist.refl _ | exact List.sublist_append_right _ _ | refine List.Sublist.cons_cons _ ?_ | refine List.Sublist.append (List.Sublist.refl _) ?_ | refine List.Sublist.cons _ ?_ | refine List.Sublist.trans ?_ (List.sublist_append_right _ _))))) fun _ => ?_
          case hx34 => exact (fun _ h => h.sub (List.sublist_append_left _ _))
          rw [show hexB ([] ++ dig z) = sumH z from hexB_sum z]
          refine TA.pure 9 rfl (by kernel_rfl) (Yl.build (ixs := [0, 1]) (vs := [_, _]) (rs := [_, _]) [_, _] st53 rfl ⟨rfl, rfl, trivial⟩ rfl) rfl ?_
          refine TA.one 11 (by kernel_rfl) ?_
          refine Up.skp rfl rfl (Skp.storeA (vs := hashV (sumH z)) sz53 rfl rfl rfl (by repeat (first | exact Foc.head | apply Foc.tail | apply Foc.right)) (Nat.le_of_ble_eq_true rfl) rfl) (.inl rfl) ?_
          exact TA.done (by kernel_rfl) (fun _ _ h => ⟨b22, h.to ⟨rfl, rfl, rfl, rfl, trivial⟩ (fun _ h => h.sub (by repeat (first | exact List.Sublist.refl _ | exact List.sublist_append_right _ _ | refine List.Sublist.cons_cons _ ?_ | refine List.Sublist.append (List.Sublist.refl _) ?_ | refine List.Sublist.cons _ ?_ | refine List.Sublist.trans ?_ (List.sublist_append_right _ _))))⟩)
      · refine Up.eff rfl rfl (Eff.alloc zr53 rfl) rfl (fun _ => .inr (fun _ h => h.sub (by repeat (first | exact List.Sublist.refl _ | exact List.sublist_append_right _ _ | refine List.Sublist.cons_cons _ ?_ | refine List.Sublist.append (List.Sublist.refl _) ?_ | refine List.Sublist.cons _ ?_ | refine List.Sublist.trans ?_ (List.sublist_append_right _ _))))) fun b22 => ?_
        refine TA.one 3 (by kernel_rfl) ?_
        refine Up.eff rfl rfl (Eff.makeB (i := 0) (j := 32) Tryz.underlying40 sz5 by5 zr5 rfl rfl rfl rfl (by omega) (by omega)) rfl (fun _ => .inr (fun _ h => h.sub (by repeat (first | exact List.Sublist.refl _ | exact List.sublist_append_right _ _ | refine List.Sublist.cons_cons _ ?_ | refine List.Sublist.append (List.Sublist.refl _) ?_ | refine List.Sublist.cons _ ?_ | refine List.Sublist.trans ?_ (List.sublist_append_right _ _))))) fun b116 => ?_
        refine TA.one 7 (by kernel_rfl) ?_
        refine Up.call rfl rfl (Cll.inv (xs := [_]) (vs := [_]) Tryz.func178 rfl (by kernel_rfl) (m166Sum _) rfl ⟨rfl, trivial⟩) rfl (Gives.of (fun _ h => h.perm (List.perm_append_comm_assoc [(b116, _), (b22, _)] (ShaAt bh z r1.1) (ShaAt bh2 (d.take d.length) qd.1.1 ++ (eofB ea :: Fr)))) (sumSha_g z [] r1 (sl b116 0 0 32) [(b116, _)] (SlB.mk (n := 0) (by omega) (by rw [List.length_replicate]; omega) rfl) (by first | (simp only [List.length_take]; omega) | omega) (by decide) bh g ((b22, _) :: (ShaAt bh2 (d.take d.length) qd.1.1 ++ (eofB ea :: Fr))))) (fun _ => .inr (fun _ h => h.sub (by repeat (first | exact List.Sublist.refl _ | exact List.sublist_append_right _ _ | refine List.Sublist.cons_cons _ ?_ | refine List.Sublist.append (List.Sublist.refl _) ?_ | refine List.Sublist.cons _ ?_ | refine List.Sublist.trans ?_ (List.sublist_append_right _ _))))) fun u => ?_
        refine TA.one 8 (by kernel_rfl) ?_
        refine Up.call rfl rfl (Cll.func (xs := [_]) (vs := [_]) Tryz.func38 rfl (by kernel_rfl) ⟨rfl, trivial⟩) rfl ((hexHex_q ([] ++ dig z) u.1.1 u.1.2 u.2 (by rw [List.nil_append, dig_length]; omega)).gives ?hx34) (fun _ => .inr (fun _ h => h.sub (by repeat (first | exact List.Sublist.refl _ | exact List.sublist_append_right _ _ | refine List.Sublist.cons_cons _ ?_ | refine List.Sublist.append (List.Sublist.refl _) ?_ | refine List.Sublist.cons _ ?_ | refine List.Sublist.trans ?_ (List.sublist_append_right _ _))))) fun _ => ?_
        case hx34 => exact (fun _ h => h.sub (List.sublist_append_left _ _))
        rw [show hexB ([] ++ dig z) = sumH z from hexB_sum z]
        refine TA.pure 9 rfl (by kernel_rfl) (Yl.build (ixs := [0, 1]) (vs := [_, _]) (rs := [_, _]) [_, _] st53 rfl ⟨rfl, rfl, trivial⟩ rfl) rfl ?_
        refine TA.one 11 (by kernel_rfl) ?_
        refine Up.skp rfl rfl (Skp.storeA (vs := hashV (sumH z)) sz53 rfl rfl rfl (by repeat (first | exact Foc.head | apply Foc.tail | apply Foc.right)) (Nat.le_of_ble_eq_true rfl) rfl) (.inl rfl) ?_
        exact TA.done (by kernel_rfl) (fun _ _ h => ⟨b22, h.to ⟨rfl, rfl, rfl, rfl, trivial⟩ (fun _ h => h.sub (by repeat (first | exact List.Sublist.refl _ | exact List.sublist_append_right _ _ | refine List.Sublist.cons_cons _ ?_ | refine List.Sublist.append (List.Sublist.refl _) ?_ | refine List.Sublist.cons _ ?_ | refine List.Sublist.trans ?_ (List.sublist_append_right _ _))))⟩)
    · rintro a w ⟨b22, hst⟩
      refine TC.use hst ?_
      refine TC.mid (fun a w => ∃ b23 : Nat, St 159 [] [(0, .iface 56 (.agg ⟨saidL dg df n0 m z d⟩)), (7, .int .i64 (z.length : Int)), (22, pt b22 0), (23, pt b23 0)] g ((b23, oC (hashV (sumH d)) 53) :: (b22, oC (hashV (sumH z)) 53) :: eofB ea :: Fr) a w) ?_ ?_
      · refine TC.draws [11] Fr mixed (by kernel_rfl) rfl (fun _ h => h.sub (by repeat (first | exact List.Sublist.refl _ | exact List.sublist_append_right _ _ | refine List.Sublist.cons_cons _ ?_ | refine List.Sublist.append (List.Sublist.refl _) ?_ | refine List.Sublist.cons _ ?_ | refine List.Sublist.trans ?_ (List.sublist_append_right _ _)))) ?_
        refine TA.pure 0 rfl (by kernel_rfl) (Yl.move rfl) rfl ?_
        refine TA.pure 1 rfl (by kernel_rfl) (Yl.move rfl) rfl ?_
        refine TA.quiet 2 rfl (by kernel_rfl) (Cll.inv (xs := []) (vs := []) Tryz.func177 rfl (by kernel_rfl) (m166Size _) rfl trivial) rfl (Quiet.none (size_q bh2)) ?_
        refine TA.pure 4 rfl (by kernel_rfl) (Yl.func (xs := [_]) (ys := []) (vs := [_]) (us := []) ⟨rfl, trivial⟩ trivial) rfl ?_
        refine TA.pure 5 rfl (by kernel_rfl) (Yl.nilCheckM rfl (a166Sum bh2)) rfl ?_
        refine TA.pure 6 rfl (by kernel_rfl) (Yl.move rfl) rfl ?_
        refine TA.two 3 10 (by kernel_rfl) ?_ ?_
        · refine Up.eff rfl rfl (Eff.makeB (i := 0) (j := 32) Tryz.underlying40 sz5 by5 zr5 rfl rfl rfl rfl (by omega) (by omega)) rfl (fun _ => .inr (fun _ h => h.sub (by repeat (first | exact List.Sublist.refl _ | exact List.sublist_append_right _ _ | refine List.Sublist.cons_cons _ ?_ | refine List.Sublist.append (List.Sublist.refl _) ?_ | refine List.Sublist.cons _ ?_ | refine List.Sublist.trans ?_ (List.sublist_append_right _ _))))) fun b126 => ?_
          refine TA.two 7 10 (by kernel_rfl) ?_ ?_
          · refine Up.call rfl rfl (Cll.inv (xs := [_]) (vs := [_]) Tryz.func178 rfl (by kernel_rfl) (m166Sum _) rfl ⟨rfl, trivial⟩) rfl (Gives.of (fun _ h => h.perm (List.perm_append_comm_assoc [(b126, _), (b22, _)] (ShaAt bh2 (d.take d.length) qd.1.1) (eofB ea :: Fr))) (sumSha_g (d.take d.length) [] qd.1 (sl b126 0 0 32) [(b126, _)] (SlB.mk (n := 0) (by omega) (by rw [List.length_replicate]; omega) rfl) (by first | (simp only [List.length_take]; omega) | omega) (by decide) bh2 g ((b22, _) :: (eofB ea :: Fr)))) (fun _ => .inr (fun _ h => h.sub (by repeat (first | exact List.Sublist.refl _ | exact List.sublist_append_right _ _ | refine List.Sublist.cons_cons _ ?_ | refine List.Sublist.append (List.Sublist.refl _) ?_ | refine List.Sublist.cons _ ?_ | refine List.Sublist.trans ?_ (List.sublist_append_right _ _))))) fun u => ?_
            refine TA.two 8 10 (by kernel_rfl) ?_ ?_
            · refine Up.call rfl rfl (Cll.func (xs := [_]) (vs := [_]) Tryz.func38 rfl (by kernel_rfl) ⟨rfl, trivial⟩) rfl ((hexHex_q ([] ++ dig (d.take d.length)) u.1.1 u.1.2 u.2 (by rw [List.nil_append, dig_length]; omega)).gives ?hx35) (fun _ => .inr (fun _ h => h.sub (by repeat (first | exact List.Sublist.refl _ | exact List.sublist_append_right _ _ | refine List.Sublist.cons_cons _ ?_ | refine List.Sublist.append (List.Sublist.refl _) ?_ | refine List.Sublist.cons _ ?_ | refine List.Sublist.trans ?_ (List.sublist_append_right _ _))))) fun _ => ?_
              case hx35 => exact (fun _ h => h.sub (List.sublist_append_left _ _))
              rw [show hexB ([] ++ dig (d.take d.length)) = sumH d from (hexB_sum _).trans (by rw [List.take_length])]
              refine TA.pure 9 rfl (by kernel_rfl) (Yl.build (ixs := [0, 1]) (vs := [_, _]) (rs := [_, _]) [_, _] st53 rfl ⟨rfl, rfl, trivial⟩ rfl) rfl ?_
              refine TA.one 10 (by kernel_rfl) ?_
              refine Up.eff rfl rfl (Eff.alloc zr53 rfl) rfl (fun _ => .inr (fun _ h => h.sub (by repeat (first | exact List.Sublist.refl _ | exact List.sublist_append_right _ _ | refine List.Sublist.cons_cons _ ?_ | refine List.Sublist.append (List.Sublist.refl _) ?_ | refine List.Sublist.cons _ ?_ | refine List.Sublist.trans ?_ (List.sublist_append_right _ _))))) fun b23 => ?_
              refine TA.one 11 (by kernel_rfl) ?_
              refine Up.skp rfl rfl (Skp.storeA (vs := hashV (sumH d)) sz53 rfl rfl rfl (by repeat (first | exact Foc.head | apply Foc.tail | apply Foc.right)) (Nat.le_of_ble_eq_true rfl) rfl) (.inl rfl) ?_
              exact TA.done (by kernel_rfl) (fun _ _ h => ⟨b23, h.to ⟨rfl, rfl, rfl, rfl, trivial⟩ (fun _ h => h.sub (by repeat (first | exact List.Sublist.refl _ | exact List.sublist_append_right _ _ | refine List.Sublist.cons_cons _ ?_ | refine List.Sublist.append (List.Sublist.refl _) ?_ | refine List.Sublist.cons _ ?_ | refine List.Sublist.trans ?_ (List.sublist_append_right _ _))))⟩)
            · refine Up.eff rfl rfl (Eff.alloc zr53 rfl) rfl (fun _ => .inr (fun _ h => h.sub (by repeat (first | exact List.Sublist.refl _ | exact List.sublist_append_right _ _ | refine List.Sublist.cons_cons _ ?_ | refine List.Sublist.append (List.Sublist.refl _) ?_ | refine List.Sublist.cons _ ?_ | refine List.Sublist.trans ?_ (List.sublist_append_right _ _))))) fun b23 => ?_
              refine TA.one 8 (by kernel_rfl) ?_
              refine Up.call rfl rfl (Cll.func (xs := [_]) (vs := [_]) Tryz.func38 rfl (by kernel_rfl) ⟨rfl, trivial⟩) rfl ((hexHex_q ([] ++ dig (d.take d.length)) u.1.1 u.1.2 u.2 (by rw [List.nil_append, dig_length]; omega)).gives ?hx35) (fun _ => .inr (fun _ h => h.sub (by repeat (first | exact List.Sublist.refl _ | exact List.sublist_append_right _ _ | refine List.Sublist.cons_cons _ ?_ | refine List.Sublist.append (List.Sublist.refl _) ?_ | refine List.Sublist.cons _ ?_ | refine List.Sublist.trans ?_ (List.sublist_append_right _ _))))) fun _ => ?_
              case hx35 => exact (fun _ h => h.sub (.cons _ (List.sublist_append_left _ _)))
              rw [show hexB ([] ++ dig (d.take d.length)) = sumH d from (hexB_sum _).trans (by rw [List.take_length])]
              refine TA.pure 9 rfl (by kernel_rfl) (Yl.build (ixs := [0, 1]) (vs := [_, _]) (rs := [_, _]) [_, _] st53 rfl ⟨rfl, rfl, trivial⟩ rfl) rfl ?_
              refine TA.one 11 (by kernel_rfl) ?_
              refine Up.skp rfl rfl (Skp.storeA (vs := hashV (sumH d)) sz53 rfl rfl rfl (by repeat (first | exact Foc.head | apply Foc.tail | apply Foc.right)) (Nat.le_of_ble_eq_true rfl) rfl) (.inl rfl) ?_
              exact TA.done (by kernel_rfl) (fun _ _ h => ⟨b23, h.to ⟨rfl, rfl, rfl, rfl, trivial⟩ (fun _ h => h.sub (by repeat (first | exact List.Sublist.refl _ | exact List.sublist_append_right _ _ | refine List.Sublist.cons_cons _ ?_ | refine List.Sublist.append (List.Sublist.refl _) ?_ | refine List.Sublist.cons _ ?_ | refine List.Sublist.trans ?_ (List.sublist_append_right _ _))))⟩)
          · refine Up.eff rfl rfl (Eff.alloc zr53 rfl) rfl (fun _ => .inr (fun _ h => h.sub (by repeat (first | exact List.Sublist.refl _ | exact List.sublist_append_right _ _ | refine List.Sublist.cons_cons _ ?_ | refine List.Sublist.append (List.Sublist.refl _) ?_ | refine List.Sublist.cons _ ?_ | refine List.Sublist.trans ?_ (List.sublist_append_right _ _))))) fun b23 => ?_
            refine TA.one 7 (by kernel_rfl) ?_
            refine Up.call rfl rfl (Cll.inv (xs := [_]) (vs := [_]) Tryz.func178 rfl (by kernel_rfl) (m166Sum _) rfl ⟨rfl, trivial⟩) rfl (Gives.of (fun _ h => h.perm ((List.perm_append_comm_assoc [(b23, _), (b126, _), (b22, _)] (ShaAt bh2 (d.take d.length) qd.1.1) (eofB ea :: Fr)).trans (List.Perm.append_left _ (List.Perm.swap _ _ _)))) (sumSha_g (d.take d.length) [] qd.1 (sl b126 0 0 32) [(b126, _)] (SlB.mk (n := 0) (by omega) (by rw [List.length_replicate]; omega) rfl) (by first | (simp only [List.length_take]; omega) | omega) (by decide) bh2 g ((b23, _) :: (b22, _) :: (eofB ea :: Fr)))) (fun _ => .inr (fun _ h => h.sub (by repeat (first | exact List.Sublist.refl _ | exact List.sublist_append_right _ _ | refine List.Sublist.cons_cons _ ?_ | refine List.Sublist.append (List.Sublist.refl _) ?_ | refine List.Sublist.cons _ ?_ | refine List.Sublist.trans ?_ (List.sublist_append_right _ _))))) fun u => ?_
            refine TA.one 8 (by kernel_rfl) ?_
            refine Up.call rfl rfl (Cll.func (xs := [_]) (vs := [_]) Tryz.func38 rfl (by kernel_rfl) ⟨rfl, trivial⟩) rfl ((hexHex_q ([] ++ dig (d.take d.length)) u.1.1 u.1.2 u.2 (by rw [List.nil_append, dig_length]; omega)).gives ?hx35) (fun _ => .inr (fun _ h => h.sub (by repeat (first | exact List.Sublist.refl _ | exact List.sublist_append_right _ _ | refine List.Sublist.cons_cons _ ?_ | refine List.Sublist.append (List.Sublist.refl _) ?_ | refine List.Sublist.cons _ ?_ | refine List.Sublist.trans ?_ (List.sublist_append_right _ _))))) fun _ => ?_
            case hx35 => exact (fun _ h => h.sub (List.sublist_append_left _ _))
            rw [show hexB ([] ++ dig (d.take d.length)) = sumH d from (hexB_sum _).trans (by rw [List.take_length])]
            refine TA.pure 9 rfl (by kernel_rfl) (Yl.build (ixs := [0, 1]) (vs := [_, _]) (rs := [_, _]) [_, _] st53 rfl ⟨rfl, rfl, trivial⟩ rfl) rfl ?_
            refine TA.one 11 (by kernel_rfl) ?_
            refine Up.skp rfl rfl (Skp.storeA (vs := hashV (sumH d)) sz53 rfl rfl rfl (by repeat (first | exact Foc.head | apply Foc.tail | apply Foc.right)) (Nat.le_of_ble_eq_true rfl) rfl) (.inl rfl) ?_
            exact TA.done (by kernel_rfl) (fun _ _ h => ⟨b23, h.to ⟨rfl, rfl, rfl, rfl, trivial⟩ (fun _ h => h.sub (by repeat (first | exact List.Sublist.refl _ | exact List.sublist_append_right _ _ | refine List.Sublist.cons_cons _ ?_ | refine List.Sublist.append (List.Sublist.refl _) ?_ | refine List.Sublist.cons _ ?_ | refine List.Sublist.trans ?_ (List.sublist_append_right _ _))))⟩)
        · refine Up.eff rfl rfl (Eff.alloc zr53 rfl) rfl (fun _ => .inr (fun _ h => h.sub (by repeat (first | exact List.Sublist.refl _ | exact List.sublist_append_right _ _ | refine List.Sublist.cons_cons _ ?_ | refine List.Sublist.append (List.Sublist.refl _) ?_ | refine List.Sublist.cons _ ?_ | refine List.Sublist.trans ?_ (List.sublist_append_right _ _))))) fun b23 => ?_
          refine TA.one 3 (by kernel_rfl) ?_
          refine Up.eff rfl rfl (Eff.makeB (i := 0) (j := 32) Tryz.underlying40 sz5 by5 zr5 rfl rfl rfl rfl (by omega) (by omega)) rfl (fun _ => .inr (fun _ h => h.sub (by repeat (first | exact List.Sublist.refl _ | exact List.sublist_append_right _ _ | refine List.Sublist.cons_cons _ ?_ | refine List.Sublist.append (List.Sublist.refl _) ?_ | refine List.Sublist.cons _ ?_ | refine List.Sublist.trans ?_ (List.sublist_append_right _ _))))) fun b126 => ?_
          refine TA.one 7 (by kernel_rfl) ?_
          refine Up.call rfl rfl (Cll.inv (xs := [_]) (vs := [_]) Tryz.func178 rfl (by kernel_rfl) (m166Sum _) rfl ⟨rfl, trivial⟩) rfl (Gives.of (fun _ h => h.perm (List.perm_append_comm_assoc [(b126, _), (b23, _), (b22, _)] (ShaAt bh2 (d.take d.length) qd.1.1) (eofB ea :: Fr))) (sumSha_g (d.take d.length) [] qd.1 (sl b126 0 0 32) [(b126, _)] (SlB.mk (n := 0) (by omega) (by rw [List.length_replicate]; omega) rfl) (by first | (simp only [List.length_take]; omega) | omega) (by decide) bh2 g ((b23, _) :: (b22, _) :: (eofB ea :: Fr)))) (fun _ => .inr (fun _ h => h.sub (by repeat (first | exact List.Sublist.refl _ | exact List.sublist_append_right _ _ | refine List.Sublist.cons_cons _ ?_ | refine List.Sublist.append (List.Sublist.refl _) ?_ | refine List.Sublist.cons _ ?_ | refine List.Sublist.trans ?_ (List.sublist_append_right _ _))))) fun u => ?_
          refine TA.one 8 (by kernel_rfl) ?_
          refine Up.call rfl rfl (Cll.func (xs := [_]) (vs := [_]) Tryz.func38 rfl (by kernel_rfl) ⟨rfl, trivial⟩) rfl ((hexHex_q ([] ++ dig (d.take d.length)) u.1.1 u.1.2 u.2 (by rw [List.nil_append, dig_length]; omega)).gives ?hx35) (fun _ => .inr (fun _ h => h.sub (by repeat (first | exact List.Sublist.refl _ | exact List.sublist_append_right _ _ | refine List.Sublist.cons_cons _ ?_ | refine List.Sublist.append (List.Sublist.refl _) ?_ | refine List.Sublist.cons _ ?_ | refine List.Sublist.trans ?_ (List.sublist_append_right _ _))))) fun _ => ?_
          case hx35 => exact (fun _ h => h.sub (List.sublist_append_left _ _))
          rw [show hexB ([] ++ dig (d.take d.length)) = sumH d from (hexB_sum _).trans (by rw [List.take_length])]
          refine TA.pure 9 rfl (by kernel_rfl) (Yl.build (ixs := [0, 1]) (vs := [_, _]) (rs := [_, _]) [_, _] st53 rfl ⟨rfl, rfl, trivial⟩ rfl) rfl ?_
          refine TA.one 11 (by kernel_rfl) ?_
          refine Up.skp rfl rfl (Skp.storeA (vs := hashV (sumH d)) sz53 rfl rfl rfl (by repeat (first | exact Foc.head | apply Foc.tail | apply Foc.right)) (Nat.le_of_ble_eq_true rfl) rfl) (.inl rfl) ?_
          exact TA.done (by kernel_rfl) (fun _ _ h => ⟨b23, h.to ⟨rfl, rfl, rfl, rfl, trivial⟩ (fun _ h => h.sub (by repeat (first | exact List.Sublist.refl _ | exact List.sublist_append_right _ _ | refine List.Sublist.cons_cons _ ?_ | refine List.Sublist.append (List.Sublist.refl _) ?_ | refine List.Sublist.cons _ ?_ | refine List.Sublist.trans ?_ (List.sublist_append_right _ _))))⟩)
      · rintro a w ⟨b23, hst⟩
        refine TC.use hst ?_
        refine TC.seq ?_
        refine TC.region ?_
        refine TL.val (Yl.move rfl) rfl ?_
        refine TL.call (Cll.inv (xs := []) (vs := []) Tryz.func126 rfl (by kernel_rfl) (m56Uncompressed _) rfl trivial) rfl (uncompressed_g dg df m z d n0 g _) fun bu => ?_
        refine TL.val (Yl.move rfl) rfl ?_
        refine TL.val (Yl.extract rfl rfl) rfl ?_
        refine TL.val (Yl.extract rfl rfl) rfl ?_
        refine TL.val (Yl.assign rfl) rfl ?_
        refine TL.val (Yl.assign rfl) rfl ?_
        refine TL.next ?_
        refine TC.seq ?_
        refine TC.seq ?_
        refine TC.region ?_
        refine TL.val (Yl.move rfl) rfl ?_
        refine TL.val (Yl.neqNilN Tryz.underlying58 rfl rfl) rfl ?_
        refine TL.next ?_
        refine TC.no rfl ?_
        refine TC.skip_next ?_
        refine TC.seq ?_
        refine TC.region ?_
        refine TL.val (Yl.move rfl) rfl ?_
        refine TL.val (Yl.nilCheckI rfl) rfl ?_
        refine TL.dfr (Dfy.inv (xs := []) (vs := []) rfl trivial) ?_
        refine TL.next ?_
        refine TC.seq ?_
        refine TC.region ?_
        refine TL.val (Yl.move rfl) rfl ?_
        refine TL.call (Cll.func (xs := [_]) (vs := [_]) Tryz.func39 rfl (by kernel_rfl) ⟨rfl, trivial⟩) rfl (sha256_g d bu (by omega) (by show 0 + d.length ≤ _; omega) g _) fun _ => ?_
        refine TL.val (Yl.move rfl) rfl ?_
        refine TL.val (Yl.extract rfl rfl) rfl ?_
        refine TL.val (Yl.extract rfl rfl) rfl ?_
        refine TL.val (Yl.extract rfl rfl) rfl ?_
        refine TL.eff (Eff.alloc zr53 rfl) rfl fun b25 => ?_
        refine TL.skp (Skp.storeA (vs := hashV (sumH d)) sz53 rfl rfl rfl (by repeat (first | exact Foc.head | apply Foc.tail | apply Foc.right)) (Nat.le_of_ble_eq_true rfl) rfl) ?_
        refine TL.val (Yl.assign rfl) rfl ?_
        refine TL.val (Yl.assign rfl) rfl ?_
        refine TL.next ?_
        refine TC.seq ?_
        refine TC.seq ?_
        refine TC.region ?_
        refine TL.val (Yl.move rfl) rfl ?_
        refine TL.val (Yl.neqNilN Tryz.underlying58 rfl rfl) rfl ?_
        refine TL.next ?_
        refine TC.no rfl ?_
        refine TC.skip_next ?_
        refine TC.seq ?_
        refine TC.region ?_
        refine TL.val (Yl.loadA (vs := hashV (sumH z)) Tryz.underlying53 rfl sz53 rfl (by repeat (first | exact Foc.head | apply Foc.tail | apply Foc.right)) rfl) rfl ?_
        refine TL.val (Yl.loadA (vs := hashV (sumH d)) Tryz.underlying53 rfl sz53 rfl (by repeat (first | exact Foc.head | apply Foc.tail | apply Foc.right)) rfl) rfl ?_
        refine TL.val (Yl.move rfl) rfl ?_
        refine TL.val (Yl.loadA (vs := hashV (sumH d)) Tryz.underlying53 rfl sz53 rfl (by repeat (first | exact Foc.head | apply Foc.tail | apply Foc.right)) rfl) rfl ?_
        refine TL.val (Yl.move rfl) rfl ?_
        refine TL.val (Yl.build (ixs := [0, 2, 1, 3, 4]) (vs := [.agg ⟨hashV (sumH z)⟩, .agg ⟨hashV (sumH d)⟩, .int .i64 (z.length : Int), .agg ⟨hashV (sumH d)⟩, .int .i64 (d.length : Int)]) (rs := clC z d) [_, _, _, _, _] st80 rfl ⟨rfl, rfl, rfl, rfl, rfl, trivial⟩ rfl) rfl ?_
        refine TL.eff (Eff.box (v := .agg ⟨clC z d⟩) rfl rfl) rfl fun b158 => ?_
        refine TL.val (Yl.assign rfl) rfl ?_
        refine TL.val (Yl.assign rfl) rfl ?_
        refine TL.next ?_
        exact TC.back2D (σ := Nat) b158 rfl rfl rfl rfl (fun _ h => h.sub (by repeat (first | exact List.Sublist.refl _ | exact List.sublist_append_right _ _ | refine List.Sublist.cons_cons _ ?_ | refine List.Sublist.append (List.Sublist.refl _) ?_ | refine List.Sublist.cons _ ?_ | refine List.Sublist.trans ?_ (List.sublist_append_right _ _)))) (closeD bu _)
end Go.Proofs.YtlhncphipfkkjaaGreatDoor

/- Laws: a pointer held against nil; the bytes of a buffer as a string, which freezes them. -/
namespace Go.Proofs.YtlhncphipfkkjaaGreatDoor
open Go
variable {P : Program} {F : FL} {H : HL} {g : World} {d : Option Nat} {ty : TypeId} {pos : String} {aft : Array Edge} {gd : Option (Nat × Bool)}

theorem Yl.eqlPN {t e t' : TypeId} {x : Operand} {c : Value} {z : Nat} (hu : P.underlying t = some (.pointer e)) (hz : SizeIs P e (z + 1)) (hx : ev F x = some (.pointer none)) (hc : c = .pointer none) : Yl P F H ⟨d, .binOp .eql t x (.const c) t', ty, pos, aft, gd⟩ (.bool true) := fun a g w hf _ => by
  subst hc
  have hev : a.eval (.const (.pointer none)) = .pointer none := rfl
  have he : (Op.equalIn (9999 + 1) t (.pointer none) (.pointer none)).run P w = .ok true w := by unfold Op.equalIn; simp [run_underlying hu, run_sizeOf' hz]
  have he' : (Op.equal t (.pointer none) (.pointer none)).run P w = .ok true w := he
  simp [execOp, hf.eval hx, hev, eqGuard, binOp, he']
theorem Yl.eqlPS {t e t' : TypeId} {x : Operand} {c : Value} {z : Nat} {a : Addr} (hu : P.underlying t = some (.pointer e)) (hz : SizeIs P e (z + 1)) (hx : ev F x = some (.pointer (some a))) (hc : c = .pointer none) : Yl P F H ⟨d, .binOp .eql t x (.const c) t', ty, pos, aft, gd⟩ (.bool false) := fun ac g w hf _ => by
  subst hc
  have hev : ac.eval (.const (.pointer none)) = .pointer none := rfl
  have he : (Op.equalIn (9999 + 1) t (.pointer (some a)) (.pointer none)).run P w = .ok false w := by unfold Op.equalIn; simp [run_underlying hu, run_sizeOf' hz]
  have he' : (Op.equal t (.pointer (some a)) (.pointer none)).run P w = .ok false w := he
  simp [execOp, hf.eval hx, hev, eqGuard, binOp, he']

theorem Eff.unsafeStr {pt' it te : TypeId} {x y : Operand} {b n : Nat} {cs : List Value} {l : List UInt8} {R : HL} (hp : P.underlying pt' = some (.pointer te)) (hc : P.cellsOf te = 1) (hx : ev F x = some (pt b 0)) (hy : ev F y = some (.int .i64 (n : Int))) (hn : l.length = n) (h0 : l ≠ [])
    (hH : ∀ w, Own g w H → Own g w ((b, oC cs te) :: R)) (hcs : cs.take n = bV l) (hle : n ≤ cs.length) (hl : n ≤ 1099511627776) :
    Eff P F g H ⟨d, .call { callee := .builtin .unsafeString, args := #[x, y], argTypes := #[pt', it] }, ty, pos, aft, gd⟩ Unit (fun _ => vS l) (fun _ => R) := fun a w hf ho => by
  subst hn
  have ho2 := hH w ho
  have hb : w.heap[b]? = some (oC cs te) := ho2.mem (b, _) List.mem_cons_self
  have hr := Lib.run_unsafeString_row (P := P) w pt' it ty te hp hc b cs.length (shape_of hb) l h0 hle (by omega) (fun j x hj => by
    have hlt := (List.getElem?_eq_some_iff.1 hj).1
    have h1 : cs[j]? = some (.int .u8 x.toNat) := by
      have := congrArg (fun z : List Value => z[j]?) hcs
      simp only [bV, List.getElem?_take, List.getElem?_map, hj, if_pos hlt] at this
      exact this
    rw [show (⟨b, 0, none⟩ : Addr).add j = ⟨b, 0 + j, none⟩ from Addr.add_lit _ _ _]
    simp [World.cell?, hb, h1])
  refine ⟨(), w.freeze ⟨b, 0, none⟩ l.length, by simp [execOp, resolve, invoke, builtin, hf.eval hx, hf.eval hy, hr], ?_⟩
  have hnd := ho2.nodup
  simp only [List.map_cons, List.nodup_cons] at hnd
  refine ⟨hnd.2, fun p hp => ?_, ?_, ?_⟩
  · have hne : b ≠ p.1 := fun e => hnd.1 (List.mem_map.2 ⟨p, hp, e.symm⟩)
    have := ho2.mem p (List.mem_cons_of_mem _ hp)
    unfold World.freeze
    split
    · exact this
    · simp only [Array.getElem?_modify]
      rw [if_neg hne]; exact this
  · unfold World.freeze; split <;> exact ho2.os
  · unfold World.freeze; split <;> exact ho2.out
end Go.Proofs.YtlhncphipfkkjaaGreatDoor

namespace Go.Proofs.YtlhncphipfkkjaaGreatDoor
open Go
theorem copyCheck_g (v : Value) (b : Nat) (g : World) (Fr : HL) : Gives Tryz.prog 47 #[pt b 0] g ((b, oC [.pointer none, v] 133) :: Fr) Unit (fun _ => .tuple #[]) (fun _ => (b, oC [pt b 0, v] 133) :: Fr) := by
  refine Gives.enter Tryz.func47 rfl Tryz.ntmps47 rfl ?_
  refine TC.seq ?_
  refine TC.region ?_
  refine TL.val (Yl.move rfl) rfl ?_
  refine TL.val (Yl.nilCheckP rfl) rfl ?_
  refine TL.val (Yl.fieldAddr (k := 131) (m := 0) (o := 0) Tryz.underlying133 rfl sz131 rfl rfl) rfl ?_
  refine TL.val (Yl.load1 Tryz.underlying131 rfl rfl (by repeat (first | exact Foc.head | apply Foc.tail | apply Foc.right)) rfl) rfl ?_
  refine TL.val (Yl.eqlPN Tryz.underlying131 sz133 rfl rfl) rfl ?_
  refine TL.next ?_
  refine TC.yes rfl ?_
  refine TC.region ?_
  refine TL.val (Yl.move rfl) rfl ?_
  refine TL.val (Yl.move rfl) rfl ?_
  refine TL.val (Yl.toUnsafe (z := 1) Tryz.underlying131 Tryz.underlying196 (by kernel_rfl) rfl (by repeat (first | exact Foc.head | apply Foc.tail | apply Foc.right)) (by show 0 < 2; omega)) rfl ?_
  refine TL.val (Yl.noEscape Tryz.func60 (by kernel_rfl) rfl (by kernel_rfl) (by kernel_rfl) rfl) rfl ?_
  refine TL.val (Yl.fromUnsafe (z := 2) (n := 2) Tryz.underlying196 Tryz.underlying131 (by kernel_rfl) rfl (by repeat (first | exact Foc.head | apply Foc.tail | apply Foc.right)) rfl (by kernel_rfl)) rfl ?_
  refine TL.val (Yl.nilCheckP rfl) rfl ?_
  refine TL.val (Yl.fieldAddr (k := 131) (m := 0) (o := 0) Tryz.underlying133 rfl sz131 rfl rfl) rfl ?_
  refine TL.skp (Skp.store1 (cs' := [pt b 0, v]) sz131 rfl rfl rfl (by repeat (first | exact Foc.head | apply Foc.tail | apply Foc.right)) (Nat.le_of_ble_eq_true rfl) rfl) ?_
  exact TL.done (Back.end0 () rfl rfl (fun _ h => h))
theorem copyCheck_q (v : Value) (b : Nat) : Quiet Tryz.prog 47 #[pt b 0] [(b, oC [pt b 0, v] 133)] (.tuple #[]) := by
  refine Quiet.of_gives fun g Fr => ?_
  refine Gives.enter Tryz.func47 rfl Tryz.ntmps47 rfl ?_
  refine TC.seq ?_
  refine TC.region ?_
  refine TL.val (Yl.move rfl) rfl ?_
  refine TL.val (Yl.nilCheckP rfl) rfl ?_
  refine TL.val (Yl.fieldAddr (k := 131) (m := 0) (o := 0) Tryz.underlying133 rfl sz131 rfl rfl) rfl ?_
  refine TL.val (Yl.load1 Tryz.underlying131 rfl rfl (by repeat (first | exact Foc.head | apply Foc.tail | apply Foc.right)) rfl) rfl ?_
  refine TL.val (Yl.eqlPS Tryz.underlying131 sz133 rfl rfl) rfl ?_
  refine TL.next ?_
  refine TC.no rfl ?_
  refine TC.seq ?_
  refine TC.region ?_
  refine TL.val (Yl.move rfl) rfl ?_
  refine TL.val (Yl.nilCheckP rfl) rfl ?_
  refine TL.val (Yl.fieldAddr (k := 131) (m := 0) (o := 0) Tryz.underlying133 rfl sz131 rfl rfl) rfl ?_
  refine TL.val (Yl.load1 Tryz.underlying131 rfl rfl (by repeat (first | exact Foc.head | apply Foc.tail | apply Foc.right)) rfl) rfl ?_
  refine TL.val (Yl.move rfl) rfl ?_
  refine TL.val (Yl.neqPtr (z := 2) Tryz.underlying131 (by kernel_rfl) rfl rfl) rfl ?_
  refine TL.next ?_
  refine TC.no rfl ?_
  exact TC.skip (Back.end0 () rfl rfl (fun _ h => h))
theorem grow_g (n : Nat) (hn : n ≤ 1000000) (b : Nat) (g : World) (Fr : HL) : Gives Tryz.prog 48 #[pt b 0, .int .i64 (n : Int)] g ((b, oC [pt b 0, .slice none 0 0] 133) :: Fr) { q : Nat × List Value // n ≤ q.2.length ∧ q.2.length ≤ 9223372036854775807 } (fun _ => .tuple #[]) (fun q => (b, oC [pt b 0, sl q.1.1 0 0 q.1.2.length] 133) :: (q.1.1, oC q.1.2 5) :: Fr) := by
  refine Gives.enter Tryz.func48 rfl Tryz.ntmps48 rfl ?_
  refine TC.seq ?_
  refine TC.draws [] ((b, oC [pt b 0, .slice none 0 0] 133) :: Fr) mixed (by kernel_rfl) rfl (fun _ h => h) ?_
  refine TA.pure 0 rfl (by kernel_rfl) (Yl.move rfl) rfl ?_
  refine TA.pure 1 rfl (by kernel_rfl) (Yl.nilCheckP rfl) rfl ?_
  refine TA.pure 2 rfl (by kernel_rfl) (Yl.fieldAddr (k := 40) (m := 1) (o := 1) Tryz.underlying133 rfl sz40 rfl rfl) rfl ?_
  refine TA.load 3 rfl (by kernel_rfl) (Yl.load1 Tryz.underlying40 rfl rfl (by repeat (first | exact Foc.head | apply Foc.tail | apply Foc.right)) rfl) rfl ?_
  refine TA.pure 4 rfl (by kernel_rfl) (Yl.capL Tryz.underlying40 rfl) rfl ?_
  refine TA.pure 5 rfl (by kernel_rfl) (Yl.mul (r := 0) rfl rfl rfl) rfl ?_
  refine TA.pure 6 rfl (by kernel_rfl) (Yl.move rfl) rfl ?_
  refine TA.pure 7 rfl (by kernel_rfl) (Yl.add (r := (n : Int)) rfl rfl (by rw [wI (by omega)]; omega)) rfl ?_
  refine TA.pure 9 rfl (by kernel_rfl) (Yl.move rfl) rfl ?_
  refine TA.pure 10 rfl (by kernel_rfl) (Yl.nilCheckP rfl) rfl ?_
  refine TA.pure 11 rfl (by kernel_rfl) (Yl.fieldAddr (k := 40) (m := 1) (o := 1) Tryz.underlying133 rfl sz40 rfl rfl) rfl ?_
  refine TA.load 12 rfl (by kernel_rfl) (Yl.load1 Tryz.underlying40 rfl rfl (by repeat (first | exact Foc.head | apply Foc.tail | apply Foc.right)) rfl) rfl ?_
  refine TA.pure 13 rfl (by kernel_rfl) (Yl.lenL Tryz.underlying40 rfl) rfl ?_
  refine TA.one 8 (by kernel_rfl) ?_
  refine Up.eff rfl rfl (Eff.noZero (n := n) (ps := #[3]) Tryz.func61 (by kernel_rfl) rfl (by kernel_rfl) (by kernel_rfl) Tryz.underlying40 rfl (by omega)) rfl (fun _ => .inr (fun _ h => h.sub (by repeat (first | exact List.Sublist.refl _ | exact List.sublist_append_right _ _ | refine List.Sublist.cons_cons _ ?_ | refine List.Sublist.append (List.Sublist.refl _) ?_ | refine List.Sublist.cons _ ?_ | refine List.Sublist.trans ?_ (List.sublist_append_right _ _))))) fun q => ?_
  have hq1 := q.2.1
  have hq2 := q.2.2
  refine TA.pure 14 rfl (by kernel_rfl) (Yl.slcH (j := 0) Tryz.underlying40 sz5 rfl rfl rfl (Nat.zero_le _)) rfl ?_
  have hadv : adv 0 q.1.2.length 0 1 = 0 := by unfold adv; split <;> simp
  rw [hadv]
  refine TA.pure 15 rfl (by kernel_rfl) (Yl.assign rfl) rfl ?_
  refine TA.next (by kernel_rfl) ?_
  refine TC.seq ?_
  refine TC.region ?_
  refine TL.val (Yl.move rfl) rfl ?_
  refine TL.val (Yl.move rfl) rfl ?_
  refine TL.val (Yl.nilCheckP rfl) rfl ?_
  refine TL.val (Yl.fieldAddr (k := 40) (m := 1) (o := 1) Tryz.underlying133 rfl sz40 rfl rfl) rfl ?_
  refine TL.val (Yl.load1 Tryz.underlying40 rfl rfl (by repeat (first | exact Foc.head | apply Foc.tail | apply Foc.right)) rfl) rfl ?_
  refine TL.eff (Eff.copy (m := 0) (n := 0) (news := []) Tryz.underlying40 sz5 rfl rfl (by repeat (first | exact Foc.head | apply Foc.tail | apply Foc.right)) Src.nil rfl (by intro y hy; cases hy) rfl (by omega)) rfl fun _ => ?_
  rw [show lay q.1.2 0 (([] : List Value).take 0) = q.1.2 from by simp [lay]]
  refine TL.next ?_
  refine TC.region ?_
  refine TL.val (Yl.move rfl) rfl ?_
  refine TL.val (Yl.move rfl) rfl ?_
  refine TL.val (Yl.nilCheckP rfl) rfl ?_
  refine TL.val (Yl.fieldAddr (k := 40) (m := 1) (o := 1) Tryz.underlying133 rfl sz40 rfl rfl) rfl ?_
  refine TL.skp (Skp.store1 (cs' := [pt b 0, sl q.1.1 0 0 q.1.2.length]) sz40 rfl rfl rfl (by repeat (first | exact Foc.head | apply Foc.tail | apply Foc.right)) (Nat.le_of_ble_eq_true rfl) rfl) ?_
  exact TL.done (Back.end0 q rfl rfl (fun _ h => h.perm (List.Perm.swap _ _ _)))
theorem Grow_g (n : Nat) (hn : n ≤ 1000000) (h0 : 0 < n) (b : Nat) (g : World) (Fr : HL) : Gives Tryz.prog 40 #[pt b 0, .int .i64 (n : Int)] g ((b, oC [.pointer none, .slice none 0 0] 133) :: Fr) { q : Nat × List Value // n ≤ q.2.length ∧ q.2.length ≤ 9223372036854775807 } (fun _ => .tuple #[]) (fun q => (b, oC [pt b 0, sl q.1.1 0 0 q.1.2.length] 133) :: (q.1.1, oC q.1.2 5) :: Fr) := by
  refine Gives.enter Tryz.func40 rfl Tryz.ntmps40 rfl ?_
  refine TC.seq ?_
  refine TC.region ?_
  refine TL.val (Yl.move rfl) rfl ?_
  refine TL.call (Cll.func (xs := [_]) (vs := [_]) Tryz.func47 rfl (by kernel_rfl) ⟨rfl, trivial⟩) rfl (copyCheck_g (.slice none 0 0) b g Fr) fun _ => ?_
  refine TL.next ?_
  refine TC.seq ?_
  refine TC.seq ?_
  refine TC.region ?_
  refine TL.val (Yl.move rfl) rfl ?_
  refine TL.val (Yl.lss rfl rfl (decide_eq_false (by omega))) rfl ?_
  refine TL.next ?_
  refine TC.no rfl ?_
  refine TC.skip_next ?_
  refine TC.seq ?_
  refine TC.draws [] ((b, oC [pt b 0, .slice none 0 0] 133) :: Fr) mixed (by kernel_rfl) rfl (fun _ h => h) ?_
  refine TA.pure 0 rfl (by kernel_rfl) (Yl.move rfl) rfl ?_
  refine TA.pure 1 rfl (by kernel_rfl) (Yl.nilCheckP rfl) rfl ?_
  refine TA.pure 2 rfl (by kernel_rfl) (Yl.fieldAddr (k := 40) (m := 1) (o := 1) Tryz.underlying133 rfl sz40 rfl rfl) rfl ?_
  refine TA.load 3 rfl (by kernel_rfl) (Yl.load1 Tryz.underlying40 rfl rfl (by repeat (first | exact Foc.head | apply Foc.tail | apply Foc.right)) rfl) rfl ?_
  refine TA.pure 4 rfl (by kernel_rfl) (Yl.capL Tryz.underlying40 rfl) rfl ?_
  refine TA.pure 5 rfl (by kernel_rfl) (Yl.move rfl) rfl ?_
  refine TA.pure 6 rfl (by kernel_rfl) (Yl.nilCheckP rfl) rfl ?_
  refine TA.pure 7 rfl (by kernel_rfl) (Yl.fieldAddr (k := 40) (m := 1) (o := 1) Tryz.underlying133 rfl sz40 rfl rfl) rfl ?_
  refine TA.load 8 rfl (by kernel_rfl) (Yl.load1 Tryz.underlying40 rfl rfl (by repeat (first | exact Foc.head | apply Foc.tail | apply Foc.right)) rfl) rfl ?_
  refine TA.pure 9 rfl (by kernel_rfl) (Yl.lenL Tryz.underlying40 rfl) rfl ?_
  refine TA.pure 10 rfl (by kernel_rfl) (Yl.sub (r := 0) rfl rfl rfl) rfl ?_
  refine TA.pure 11 rfl (by kernel_rfl) (Yl.move rfl) rfl ?_
  refine TA.pure 12 rfl (by kernel_rfl) (Yl.lss rfl rfl (decide_eq_true (by omega))) rfl ?_
  refine TA.next (by kernel_rfl) ?_
  refine TC.yes rfl ?_
  refine TC.region ?_
  refine TL.val (Yl.move rfl) rfl ?_
  refine TL.val (Yl.move rfl) rfl ?_
  refine TL.call (Cll.func (xs := [_, _]) (vs := [_, _]) Tryz.func48 rfl (by kernel_rfl) ⟨rfl, rfl, trivial⟩) rfl (grow_g n hn b g Fr) fun q => ?_
  exact TL.done (Back.end0 q rfl rfl (fun _ h => h))
theorem writeStr_g (s : List UInt8) (cs : List Value) (n cap : Nat) (hc : cap ≤ cs.length) (hr : n + s.length ≤ cap) (b gb : Nat) (g : World) (Fr : HL) : Gives Tryz.prog 41 #[pt b 0, vS s] g ((b, oC [pt b 0, sl gb 0 n cap] 133) :: (gb, oC cs 5) :: Fr) Unit (fun _ => .tuple #[.int .i64 (s.length : Int), .nilIface]) (fun _ => (b, oC [pt b 0, sl gb 0 (n + s.length) cap] 133) :: (gb, oC (lay cs n (bV s)) 5) :: Fr) := by
  refine Gives.enter Tryz.func41 rfl Tryz.ntmps41 rfl ?_
  refine TC.seq ?_
  refine TC.region ?_
  refine TL.val (Yl.assign rfl) rfl ?_
  refine TL.val (Yl.assign rfl) rfl ?_
  refine TL.next ?_
  refine TC.seq ?_
  refine TC.region ?_
  refine TL.val (Yl.move rfl) rfl ?_
  refine TL.quiet (Cll.func (xs := [_]) (vs := [_]) Tryz.func47 rfl (by kernel_rfl) ⟨rfl, trivial⟩) rfl (Quiet.pull (R := (gb, oC cs 5) :: Fr) (.cons (by repeat (first | exact Pull.head | apply Pull.tail | apply Pull.right)) .nil) (copyCheck_q (sl gb 0 n cap) b)) ?_
  refine TL.next ?_
  refine TC.seq ?_
  refine TC.region ?_
  refine TL.val (Yl.move rfl) rfl ?_
  refine TL.val (Yl.move rfl) rfl ?_
  refine TL.val (Yl.nilCheckP rfl) rfl ?_
  refine TL.val (Yl.fieldAddr (k := 40) (m := 1) (o := 1) Tryz.underlying133 rfl sz40 rfl rfl) rfl ?_
  refine TL.val (Yl.load1 Tryz.underlying40 rfl rfl (by repeat (first | exact Foc.head | apply Foc.tail | apply Foc.right)) rfl) rfl ?_
  refine TL.val (Yl.move rfl) rfl ?_
  refine TL.eff (Eff.appRoom (m := s.length) (news := bV s) Tryz.underlying40 Tryz.underlying9 (.inr rfl) sz5 rfl rfl (by repeat (first | exact Foc.head | apply Foc.tail | apply Foc.right)) Src.str (bV_length s) (bV_ones s) hr (by omega)) rfl fun _ => ?_
  rw [Nat.zero_add]
  refine TL.val (Yl.nilCheckP rfl) rfl ?_
  refine TL.val (Yl.fieldAddr (k := 40) (m := 1) (o := 1) Tryz.underlying133 rfl sz40 rfl rfl) rfl ?_
  refine TL.skp (Skp.store1 (cs' := [pt b 0, sl gb 0 (n + s.length) cap]) sz40 rfl rfl rfl (by repeat (first | exact Foc.head | apply Foc.tail | apply Foc.right)) (Nat.le_of_ble_eq_true rfl) rfl) ?_
  refine TL.next ?_
  refine TC.seq ?_
  refine TC.region ?_
  refine TL.val (Yl.move rfl) rfl ?_
  refine TL.val (Yl.lenS Tryz.underlying9 rfl) rfl ?_
  refine TL.val (Yl.assign rfl) rfl ?_
  refine TL.val (Yl.assign rfl) rfl ?_
  refine TL.next ?_
  exact TC.back2 () rfl rfl rfl rfl (fun _ h => h)
theorem string_g (l : List UInt8) (cs : List Value) (n cap : Nat) (hl : l.length = n) (h0 : 0 < n) (hn : n ≤ 1000000) (hnc : n ≤ cap) (hc : cap ≤ cs.length) (hcs : cs.take n = bV l) (b gb : Nat) (g : World) (Fr : HL) : Gives Tryz.prog 42 #[pt b 0] g ((b, oC [pt b 0, sl gb 0 n cap] 133) :: (gb, oC cs 5) :: Fr) Unit (fun _ => vS l) (fun _ => Fr) := by
  refine Gives.enter Tryz.func42 rfl Tryz.ntmps42 rfl ?_
  refine TC.seq ?_
  refine TC.region ?_
  refine TL.val (Yl.assign rfl) rfl ?_
  refine TL.next ?_
  refine TC.seq ?_
  refine TC.draws [] ((b, oC [pt b 0, sl gb 0 n cap] 133) :: Fr) mixed (by kernel_rfl) rfl (fun _ h => h.sub (.cons_cons _ (.cons _ (.refl _)))) ?_
  refine TA.pure 0 rfl (by kernel_rfl) (Yl.move rfl) rfl ?_
  refine TA.pure 1 rfl (by kernel_rfl) (Yl.nilCheckP rfl) rfl ?_
  refine TA.pure 2 rfl (by kernel_rfl) (Yl.fieldAddr (k := 40) (m := 1) (o := 1) Tryz.underlying133 rfl sz40 rfl rfl) rfl ?_
  refine TA.load 3 rfl (by kernel_rfl) (Yl.load1 Tryz.underlying40 rfl rfl (by repeat (first | exact Foc.head | apply Foc.tail | apply Foc.right)) rfl) rfl ?_
  refine TA.pure 4 rfl (by kernel_rfl) (Yl.sliceData (t := 40) rfl (by omega)) rfl ?_
  refine TA.pure 5 rfl (by kernel_rfl) (Yl.move rfl) rfl ?_
  refine TA.pure 6 rfl (by kernel_rfl) (Yl.nilCheckP rfl) rfl ?_
  refine TA.pure 7 rfl (by kernel_rfl) (Yl.fieldAddr (k := 40) (m := 1) (o := 1) Tryz.underlying133 rfl sz40 rfl rfl) rfl ?_
  refine TA.load 8 rfl (by kernel_rfl) (Yl.load1 Tryz.underlying40 rfl rfl (by repeat (first | exact Foc.head | apply Foc.tail | apply Foc.right)) rfl) rfl ?_
  refine TA.pure 9 rfl (by kernel_rfl) (Yl.lenL Tryz.underlying40 rfl) rfl ?_
  refine TA.one 10 (by kernel_rfl) ?_
  refine Up.eff rfl rfl (Eff.unsafeStr (n := n) (cs := cs) (l := l) (R := (b, oC [pt b 0, sl gb 0 n cap] 133) :: Fr) Tryz.underlying184 (by kernel_rfl) rfl rfl hl (by intro e; subst e; simp at hl; omega) (fun _ h => h.perm (List.Perm.swap _ _ _)) hcs (by omega) (by omega)) rfl (fun _ => .inr (fun _ h => h)) fun _ => ?_
  refine TA.pure 11 rfl (by kernel_rfl) (Yl.assign rfl) rfl ?_
  refine TA.next (by kernel_rfl) ?_
  exact TC.back1 () rfl rfl (fun _ h => h.sub (by repeat (first | exact List.Sublist.refl _ | exact List.sublist_append_right _ _ | refine List.Sublist.cons_cons _ ?_ | refine List.Sublist.append (List.Sublist.refl _) ?_ | refine List.Sublist.cons _ ?_ | refine List.Sublist.trans ?_ (List.sublist_append_right _ _))))
end Go.Proofs.YtlhncphipfkkjaaGreatDoor

namespace Go.Proofs.YtlhncphipfkkjaaGreatDoor
open Go
theorem join1_q (a : List UInt8) (s : Value) (ccs : List Value) (be oe ce : Nat) (ha : ccs[oe]? = some (vS a)) : Quiet Tryz.prog 27 #[sl be oe 1 ce, s] [(be, oC ccs 9)] (vS a) := by
  refine Quiet.of_gives fun g Fr => ?_
  refine Gives.enter Tryz.func27 rfl Tryz.ntmps27 rfl ?_
  refine TC.seq ?_
  refine TC.region ?_
  refine TL.val (Yl.assign rfl) rfl ?_
  refine TL.next ?_
  refine TC.seq ?_
  refine TC.seq ?_
  refine TC.region ?_
  refine TL.val (Yl.move rfl) rfl ?_
  refine TL.val (Yl.lenL Tryz.underlying37 rfl) rfl ?_
  refine TL.next ?_
  refine TC.block ?_
  refine TC.seq ?_
  refine TC.region ?_
  refine TL.val (Yl.eql rfl rfl rfl) rfl ?_
  refine TL.val (Yl.assign rfl) rfl ?_
  refine TL.next ?_
  refine TC.no rfl ?_
  refine TC.seq ?_
  refine TC.region ?_
  refine TL.val (Yl.eql rfl rfl rfl) rfl ?_
  refine TL.val (Yl.assign rfl) rfl ?_
  refine TL.next ?_
  refine TC.yes rfl ?_
  refine TC.seq ?_
  refine TC.region ?_
  refine TL.val (Yl.move rfl) rfl ?_
  refine TL.val (Yl.idxAddrS (j := 0) (o := oe) Tryz.underlying37 sz9 rfl rfl rfl (by omega) (by omega)) rfl ?_
  refine TL.val (Yl.load1 (v := vS a) Tryz.underlying9 rfl rfl (by repeat (first | exact Foc.head | apply Foc.tail | apply Foc.right)) ha) rfl ?_
  refine TL.val (Yl.assign rfl) rfl ?_
  refine TL.next ?_
  exact TC.back1 () rfl rfl (fun _ h => h)
def jl (a b : List UInt8) : Nat → Nat
  | 0 => 0
  | 1 => a.length
  | _ => a.length + b.length
def jw (a b : List UInt8) : Nat → List UInt8
  | 0 => a
  | _ => a ++ [10] ++ b
theorem jl_le (a b : List UInt8) (k : Nat) : jl a b k ≤ a.length + b.length := by
  unfold jl; split <;> omega
set_option maxHeartbeats 1000000 in
theorem join2_g (a b : List UInt8) (hal : a.length ≤ 1000) (hbl : b.length ≤ 1000) (ccs : List Value) (be oe ce : Nat) (hce : 2 ≤ ce) (ha : ccs[oe]? = some (vS a)) (hb : ccs[oe + 1]? = some (vS b)) (g : World) (Fr : HL) : Gives Tryz.prog 27 #[sl be oe 2 ce, vS ([10] : List UInt8)] g ((be, oC ccs 9) :: Fr) Unit (fun _ => vS (a ++ [10] ++ b)) (fun _ => (be, oC ccs 9) :: Fr) := by
  refine Gives.enter Tryz.func27 rfl Tryz.ntmps27 rfl ?_
  refine TC.seq ?_
  refine TC.region ?_
  refine TL.val (Yl.assign rfl) rfl ?_
  refine TL.next ?_
  refine TC.seq ?_
  refine TC.seq ?_
  refine TC.region ?_
  refine TL.val (Yl.move rfl) rfl ?_
  refine TL.val (Yl.lenL Tryz.underlying37 rfl) rfl ?_
  refine TL.next ?_
  refine TC.block ?_
  refine TC.seq ?_
  refine TC.region ?_
  refine TL.val (Yl.eql rfl rfl rfl) rfl ?_
  refine TL.val (Yl.assign rfl) rfl ?_
  refine TL.next ?_
  refine TC.no rfl ?_
  refine TC.seq ?_
  refine TC.region ?_
  refine TL.val (Yl.eql rfl rfl rfl) rfl ?_
  refine TL.val (Yl.assign rfl) rfl ?_
  refine TL.next ?_
  refine TC.no rfl ?_
  refine TC.skip_next ?_
  refine TC.seq ?_
  refine TC.region ?_
  refine TL.val (Yl.assign rfl) rfl ?_
  refine TL.next ?_
  refine TC.seq ?_
  refine TC.seq ?_
  refine TC.region ?_
  refine TL.val (Yl.move rfl) rfl ?_
  refine TL.val (Yl.lenS Tryz.underlying9 rfl) rfl ?_
  refine TL.val (Yl.gtr rfl rfl rfl) rfl ?_
  refine TL.next ?_
  refine TC.yes rfl ?_
  refine TC.seq ?_
  refine TC.seq ?_
  refine TC.region ?_
  refine TL.val (Yl.move rfl) rfl ?_
  refine TL.val (Yl.lenS Tryz.underlying9 rfl) rfl ?_
  refine TL.val (Yl.move rfl) rfl ?_
  refine TL.val (Yl.lenL Tryz.underlying37 rfl) rfl ?_
  refine TL.val (Yl.sub (r := 1) rfl rfl rfl) rfl ?_
  refine TL.val (Yl.quo (r := 9223372036854775807) rfl rfl (by omega) (by omega) rfl) rfl ?_
  refine TL.val (Yl.geq rfl rfl rfl) rfl ?_
  refine TL.next ?_
  refine TC.no rfl ?_
  refine TC.skip_next ?_
  refine TC.region ?_
  refine TL.val (Yl.move rfl) rfl ?_
  refine TL.val (Yl.move rfl) rfl ?_
  refine TL.val (Yl.lenS Tryz.underlying9 rfl) rfl ?_
  refine TL.val (Yl.move rfl) rfl ?_
  refine TL.val (Yl.lenL Tryz.underlying37 rfl) rfl ?_
  refine TL.val (Yl.sub (r := 1) rfl rfl rfl) rfl ?_
  refine TL.val (Yl.mul (r := 1) rfl rfl rfl) rfl ?_
  refine TL.val (Yl.add (r := 1) rfl rfl rfl) rfl ?_
  refine TL.val (Yl.assign rfl) rfl ?_
  refine TL.next ?_
  refine TC.seq ?_
  refine TC.seq ?_
  refine TC.region ?_
  refine TL.val (Yl.move rfl) rfl ?_
  refine TL.val (Yl.lenL Tryz.underlying37 rfl) rfl ?_
  refine TL.val (Yl.move rfl) rfl ?_
  refine TL.next ?_
  refine TC.block ?_
  refine TC.loopI (σ := Nat) (fun k => [(0, sl be oe 2 ce), (1, vS ([10] : List UInt8)), (5, .int .i64 ((1 + jl a b k : Nat) : Int)), (39, sl be oe 2 ce), (40, .int .i64 2), (41, .int .i64 (k : Int))]) (fun k => (be, oC ccs 9) :: Fr) (fun k => k ≤ 2) (fun k => 2 - k) 0 ⟨rfl, rfl, rfl, rfl, rfl, rfl, trivial⟩ (fun _ h => h) (Nat.zero_le _) (fun k hk => ?_)
  refine TC.seq ?_
  refine TC.region ?_
  refine TL.val (Yl.lss rfl rfl rfl) rfl ?_
  refine TL.next ?_
  refine TC.seq ?_
  refine TC.cond rfl (fun hc42 => ?_) (fun hc42 => ?_)
  · replace hc42 := of_decide_eq_true hc42
    refine TC.skip_next ?_
    refine TC.seq ?_
    refine TC.block ?_
    refine TC.seq ?_
    by_cases hk0 : k = 0
    · subst hk0
      refine TC.region ?_
      refine TL.val (Yl.idxAddrS (j := 0) (o := oe) Tryz.underlying37 sz9 rfl rfl rfl (by omega) (by omega)) rfl ?_
      refine TL.val (Yl.load1 (v := vS a) Tryz.underlying9 rfl rfl (by repeat (first | exact Foc.head | apply Foc.tail | apply Foc.right)) ha) rfl ?_
      refine TL.val (Yl.assign rfl) rfl ?_
      refine TL.next ?_
      refine TC.seq ?_
      refine TC.seq ?_
      refine TC.region ?_
      refine TL.val (Yl.move rfl) rfl ?_
      refine TL.val (Yl.lenS Tryz.underlying9 rfl) rfl ?_
      refine TL.val (Yl.move rfl) rfl ?_
      refine TL.val (Yl.sub rfl rfl (wI (by have := jl_le a b; have h0 := this 0; have h1 := this 1; omega))) rfl ?_
      refine TL.val (Yl.gtr rfl rfl (decide_eq_false (by have := jl_le a b; have h0 := this 0; have h1 := this 1; omega))) rfl ?_
      refine TL.next ?_
      refine TC.no rfl ?_
      refine TC.skip_next ?_
      refine TC.region ?_
      refine TL.val (Yl.move rfl) rfl ?_
      refine TL.val (Yl.move rfl) rfl ?_
      refine TL.val (Yl.lenS Tryz.underlying9 rfl) rfl ?_
      refine TL.val (Yl.add (r := ((1 + jl a b 1 : Nat) : Int)) rfl rfl (by show IntKind.i64.wrap (((1 + 0 : Nat) : Int) + (a.length : Int)) = ((1 + a.length : Nat) : Int); rw [wI (by omega)]; omega)) rfl ?_
      refine TL.val (Yl.assign rfl) rfl ?_
      refine TL.next ?_
      refine TC.region ?_
      refine TL.val (Yl.add rfl rfl (wI (by omega))) rfl ?_
      refine TL.val (Yl.move rfl) rfl ?_
      exact TL.done (Inv.again 1 (by omega) (by omega) ⟨rfl, rfl, rfl, rfl, rfl, rfl, trivial⟩ (fun _ h => h))
    · obtain rfl : k = 1 := by omega
      refine TC.region ?_
      refine TL.val (Yl.idxAddrS (j := 1) (o := oe + 1) Tryz.underlying37 sz9 rfl rfl rfl (by omega) (by omega)) rfl ?_
      refine TL.val (Yl.load1 (v := vS b) Tryz.underlying9 rfl rfl (by repeat (first | exact Foc.head | apply Foc.tail | apply Foc.right)) hb) rfl ?_
      refine TL.val (Yl.assign rfl) rfl ?_
      refine TL.next ?_
      refine TC.seq ?_
      refine TC.seq ?_
      refine TC.region ?_
      refine TL.val (Yl.move rfl) rfl ?_
      refine TL.val (Yl.lenS Tryz.underlying9 rfl) rfl ?_
      refine TL.val (Yl.move rfl) rfl ?_
      refine TL.val (Yl.sub rfl rfl (wI (by have := jl_le a b; have h0 := this 0; have h1 := this 1; omega))) rfl ?_
      refine TL.val (Yl.gtr rfl rfl (decide_eq_false (by have := jl_le a b; have h0 := this 0; have h1 := this 1; omega))) rfl ?_
      refine TL.next ?_
      refine TC.no rfl ?_
      refine TC.skip_next ?_
      refine TC.region ?_
      refine TL.val (Yl.move rfl) rfl ?_
      refine TL.val (Yl.move rfl) rfl ?_
      refine TL.val (Yl.lenS Tryz.underlying9 rfl) rfl ?_
      refine TL.val (Yl.add (r := ((1 + jl a b 2 : Nat) : Int)) rfl rfl (by show IntKind.i64.wrap (((1 + a.length : Nat) : Int) + (b.length : Int)) = ((1 + (a.length + b.length) : Nat) : Int); rw [wI (by omega)]; omega)) rfl ?_
      refine TL.val (Yl.assign rfl) rfl ?_
      refine TL.next ?_
      refine TC.region ?_
      refine TL.val (Yl.add rfl rfl (wI (by omega))) rfl ?_
      refine TL.val (Yl.move rfl) rfl ?_
      exact TL.done (Inv.again 2 (by omega) (by omega) ⟨rfl, rfl, rfl, rfl, rfl, rfl, trivial⟩ (fun _ h => h))
  · replace hc42 := of_decide_eq_false hc42
    refine TC.exit_next rfl ?_
    refine TC.seq ?_
    obtain rfl : k = 2 := by omega
    refine TC.region ?_
    refine TL.eff (Eff.alloc zr133 rfl) rfl fun b8 => ?_
    refine TL.next ?_
    refine TC.seq ?_
    refine TC.region ?_
    refine TL.val (Yl.move rfl) rfl ?_
    refine TL.call (Cll.func (xs := [_, _]) (vs := [_, _]) Tryz.func40 rfl (by kernel_rfl) ⟨rfl, rfl, trivial⟩) rfl (Grow_g (1 + jl a b 2) (by show 1 + (a.length + b.length) ≤ _; omega) (by omega) b8 g _) fun q => ?_
    have hq1 : 1 + (a.length + b.length) ≤ q.1.2.length := q.2.1
    have hq2 := q.2.2
    refine TL.next ?_
    refine TC.seq ?_
    refine TC.region ?_
    refine TL.val (Yl.move rfl) rfl ?_
    refine TL.val (Yl.idxAddrS (j := 0) (o := oe) Tryz.underlying37 sz9 rfl rfl rfl (by omega) (by omega)) rfl ?_
    refine TL.val (Yl.load1 (v := vS a) Tryz.underlying9 rfl rfl (by repeat (first | exact Foc.head | apply Foc.tail | apply Foc.right)) ha) rfl ?_
    refine TL.call (Cll.func (xs := [_, _]) (vs := [_, _]) Tryz.func41 rfl (by kernel_rfl) ⟨rfl, rfl, trivial⟩) rfl (writeStr_g a q.1.2 0 q.1.2.length (Nat.le_refl _) (by omega) b8 q.1.1 g _) fun _ => ?_
    rw [Nat.zero_add]
    refine TL.next ?_
    refine TC.seq ?_
    refine TC.seq ?_
    refine TC.region ?_
    refine TL.val (Yl.move rfl) rfl ?_
    refine TL.val (Yl.slcL (i := 1) Tryz.underlying37 sz9 rfl rfl rfl (by omega)) rfl ?_
    have hadv : adv oe ce 1 1 = oe + 1 := by unfold adv; rw [if_neg (by omega)]
    rw [hadv]
    refine TL.val (Yl.lenL Tryz.underlying37 rfl) rfl ?_
    refine TL.val (Yl.move rfl) rfl ?_
    refine TL.next ?_
    refine TC.block ?_
    refine TC.loopI (σ := Nat × List Value) (fun p => [(1, vS ([10] : List UInt8)), (8, pt b8 0), (63, sl be (oe + 1) 1 (ce - 1)), (64, .int .i64 1), (65, .int .i64 (p.1 : Int))]) (fun p => (b8, oC [pt b8 0, sl q.1.1 0 (jw a b p.1).length q.1.2.length] 133) :: (q.1.1, oC p.2 5) :: (be, oC ccs 9) :: Fr) (fun p => p.1 ≤ 1 ∧ p.2.length = q.1.2.length ∧ p.2.take (jw a b p.1).length = bV (jw a b p.1)) (fun p => 1 - p.1) (0, lay q.1.2 0 (bV a)) ⟨rfl, rfl, rfl, rfl, rfl, trivial⟩ (fun _ h => h) ⟨Nat.zero_le _, lay_length (by rw [bV_length]; omega), by have := lay_take (cs := q.1.2) (a := []) (b := bV a) (k := 0) rfl rfl (by rw [bV_length]; omega); rw [Nat.zero_add, bV_length, List.nil_append] at this; exact this⟩ (fun p hp => ?_)
    obtain ⟨j, cs⟩ := p
    obtain ⟨hj, hcl, hcw⟩ := hp
    dsimp only at hj hcl hcw ⊢
    refine TC.seq ?_
    refine TC.region ?_
    refine TL.val (Yl.lss rfl rfl rfl) rfl ?_
    refine TL.next ?_
    refine TC.seq ?_
    refine TC.cond rfl (fun hc66 => ?_) (fun hc66 => ?_)
    · replace hc66 := of_decide_eq_true hc66
      refine TC.skip_next ?_
      refine TC.seq ?_
      refine TC.block ?_
      refine TC.seq ?_
      obtain rfl : j = 0 := by omega
      have hcw0 : cs.take a.length = bV a := hcw
      have h10 : ([10] : List UInt8).length = 1 := rfl
      have hl1 : (lay cs a.length (bV [10])).length = cs.length := lay_length (by rw [bV_length, h10, hcl]; omega)
      have hw1 := lay_take (b := bV [10]) hcw0 (bV_length a) (by rw [bV_length, h10, hcl]; omega)
      rw [bV_length, h10, ← bV_append] at hw1
      have hw2 := lay_take (b := bV b) hw1 (by rw [bV_length, List.length_append, h10]) (by rw [bV_length, hl1, hcl]; omega)
      rw [bV_length, ← bV_append] at hw2
      have hw2 : (lay (lay cs a.length (bV [10])) (a.length + 1) (bV b)).take (a ++ [10] ++ b).length = bV (a ++ [10] ++ b) := by rw [List.length_append, List.length_append, h10]; exact hw2
      refine TC.region ?_
      refine TL.val (Yl.idxAddrS (j := 0) (o := oe + 1) Tryz.underlying37 sz9 rfl rfl rfl (by omega) (by omega)) rfl ?_
      refine TL.val (Yl.load1 (v := vS b) Tryz.underlying9 rfl rfl (by repeat (first | exact Foc.head | apply Foc.tail | apply Foc.right)) hb) rfl ?_
      refine TL.val (Yl.assign rfl) rfl ?_
      refine TL.next ?_
      refine TC.seq ?_
      refine TC.region ?_
      refine TL.val (Yl.move rfl) rfl ?_
      refine TL.call (Cll.func (xs := [_, _]) (vs := [_, _]) Tryz.func41 rfl (by kernel_rfl) ⟨rfl, rfl, trivial⟩) rfl (writeStr_g [10] cs a.length q.1.2.length (by omega) (by rw [h10]; omega) b8 q.1.1 g _) fun _ => ?_
      refine TL.next ?_
      refine TC.region ?_
      refine TL.val (Yl.move rfl) rfl ?_
      refine TL.call (Cll.func (xs := [_, _]) (vs := [_, _]) Tryz.func41 rfl (by kernel_rfl) ⟨rfl, rfl, trivial⟩) rfl (writeStr_g b (lay cs a.length (bV [10])) (a.length + 1) q.1.2.length (by omega) (by omega) b8 q.1.1 g _) fun _ => ?_
      refine TL.next ?_
      refine TC.region ?_
      refine TL.val (Yl.add rfl rfl (wI (by omega))) rfl ?_
      refine TL.val (Yl.move rfl) rfl ?_
      exact TL.done (Inv.again (1, lay (lay cs a.length (bV [10])) (a.length + 1) (bV b)) ⟨Nat.le_refl _, by show (lay (lay cs a.length (bV [10])) (a.length + 1) (bV b)).length = _; rw [lay_length (by rw [bV_length, hl1]; omega), hl1]; exact hcl, hw2⟩ (by omega) ⟨rfl, rfl, rfl, rfl, rfl, trivial⟩ (fun _ h => by show Own g _ ((b8, oC [pt b8 0, sl q.1.1 0 (a ++ [10] ++ b).length q.1.2.length] 133) :: _); rw [List.length_append, List.length_append]; exact h))
    · replace hc66 := of_decide_eq_false hc66
      refine TC.exit_next rfl ?_
      refine TC.seq ?_
      obtain rfl : j = 1 := by omega
      have hjl : (jw a b 1).length = a.length + 1 + b.length := by show (a ++ [10] ++ b).length = _; rw [List.length_append, List.length_append]; rfl
      refine TC.region ?_
      refine TL.call (Cll.func (xs := [_]) (vs := [_]) Tryz.func42 rfl (by kernel_rfl) ⟨rfl, trivial⟩) rfl (string_g (jw a b 1) cs (jw a b 1).length q.1.2.length rfl (by omega) (by omega) (by omega) (by omega) hcw b8 q.1.1 g _) fun _ => ?_
      refine TL.val (Yl.assign rfl) rfl ?_
      refine TL.next ?_
      exact TC.back1 () rfl rfl (fun _ h => h)
end Go.Proofs.YtlhncphipfkkjaaGreatDoor
