/- The closed facts of the row; conditions: none. -/
import Derived.Test.YtlhncphipfkkjaaGreatDoorW15
/- The closed facts of the row, one theorem each. -/
namespace Go.Proofs.YtlhncphipfkkjaaGreatDoor
open Go
theorem jf0 : (Rows.fnLayerValidRow.wf (OpenSpec.ofChange Rows.fnLayerValidSpec)) = true := by kernel_rfl
theorem jf1 : (laidOutB Tryz.prog) = true := by kernel_rfl
theorem jf2 : (mapsRowed Tryz.prog) = true := by kernel_rfl
theorem jf3 : (Tryz.f3.params.all (Tryz.prog.readableRec ·)) = true := by kernel_rfl
theorem jf4 : (namedTie Tryz.prog Rows.fnLayerValidRow.named Rows.fnLayerValidSpec.vars) = true := by kernel_rfl
theorem jf5 : ((Rows.fnLayerValidRow.stops == [])) = true := by kernel_rfl
theorem jf6 : ((Tryz.prog.stops == [])) = true := by kernel_rfl
theorem jf7 : ((Rows.fnLayerValidRow.knobs == [])) = true := by kernel_rfl
theorem jf8 : ((Tryz.prog.stopKnobs == [])) = true := by kernel_rfl
theorem jf9 : ((Rows.fnLayerValidRow.inPlace == Tryz.prog.inPlace 3)) = true := by kernel_rfl
theorem jf10 : ((Rows.fnLayerValidRow.unfollowed == Tryz.prog.unfollowed 3)) = true := by kernel_rfl
theorem jf11 : ((Rows.fnLayerValidRow.recurses == Tryz.prog.recurses 3)) = true := by kernel_rfl
theorem jf12 : ((Rows.fnLayerValidRow.named == Tryz.prog.varsNamed 3)) = true := by kernel_rfl
theorem jf13 : ((Rows.fnLayerValidRow.maps == (Tryz.f3.params.toList ++ Rows.fnLayerValidSpec.plain.varTypes Tryz.prog).any (Tryz.prog.mapsRec ·))) = true := by kernel_rfl
theorem jf14 : ((Rows.fnLayerValidRow.ifaces == (Tryz.f3.params.toList ++ Rows.fnLayerValidSpec.plain.varTypes Tryz.prog).any (Tryz.prog.ifacesRec ·))) = true := by kernel_rfl
theorem jf15 : ((Rows.fnLayerValidRow.mapsOut == Tryz.prog.mapsAmong Tryz.f3.resultTypes.toList)) = true := by kernel_rfl
theorem jf16 : ((Rows.fnLayerValidRow.loops == (Tryz.f3.params.toList ++ Rows.fnLayerValidSpec.plain.varTypes Tryz.prog).any (Tryz.prog.loopsFrom ·))) = true := by kernel_rfl
theorem jf17 : ((Rows.fnLayerValidRow.wideKeys == (Tryz.f3.params.toList ++ Rows.fnLayerValidSpec.plain.varTypes Tryz.prog ++ Tryz.f3.resultTypes.toList).any (Tryz.prog.wideKeysFrom ·))) = true := by kernel_rfl
theorem jf18 : (Rows.fnLayerValidSpec.vars.all (Tryz.prog.varReadable ·)) = true := by kernel_rfl
theorem jf19 : (Tryz.f3.resultTypes.all (fun t => Tryz.prog.readableRec t && decide (t < Tryz.prog.types.size))) = true := by kernel_rfl
theorem jf20 : ((Rows.fnLayerValidRow.ifacesOut == Tryz.f3.resultTypes.toList.any (Tryz.prog.ifacesRec ·))) = true := by kernel_rfl
theorem jf21 : ((Rows.fnLayerValidRow.loopsOut == Tryz.f3.resultTypes.toList.any (Tryz.prog.loopsFrom ·))) = true := by kernel_rfl
theorem jf22 : ((Rows.fnLayerValidRow.plainKeys == Tryz.prog.plainKeys)) = true := by kernel_rfl
theorem jf23 : (Rows.fnLayerValidRow.shortTexts.isNone) = true := by kernel_rfl
theorem jf24 : (Tryz.prog.stopsHeard) = true := by kernel_rfl
theorem jf25 : (Tryz.prog.mayEnter) = true := by kernel_rfl
theorem jf26 : ((Rows.fnLayerValidRow.lifted == Tryz.prog.liftsFinal)) = true := by kernel_rfl
theorem jf27 : ((Tryz.prog.make == some Rows.fnLayerValidRow.make)) = true := by kernel_rfl
theorem jf28 : ((Rows.fnLayerValidRow.kinds == (if Rows.fnLayerValidRow.domain.isEmpty then [] else Tryz.f3.params.toList.map fun t => match Tryz.prog.underlying t with | some (.int k) => some k | _ => none))) = true := by kernel_rfl
theorem jf29 : ((Rows.fnLayerValidRow.pinned == Rows.fnLayerValidRow.pinnedBy)) = true := by kernel_rfl
theorem jf30 : ((Rows.fnLayerValidRow.veiled == (Tryz.f3.params.toList ++ Rows.fnLayerValidSpec.plain.varTypes Tryz.prog ++ Tryz.f3.resultTypes.toList).any (Tryz.prog.veiledRec ·))) = true := by kernel_rfl
theorem jf31 : (Rows.fnLayerValidRow.veiledFits Tryz.prog Tryz.f3.params.toList (Tryz.f3.params.toList ++ Rows.fnLayerValidSpec.plain.varTypes Tryz.prog ++ Tryz.f3.resultTypes.toList)) = true := by kernel_rfl
end Go.Proofs.YtlhncphipfkkjaaGreatDoor

/- The closed facts of the row, joined. -/
namespace Go.Proofs.YtlhncphipfkkjaaGreatDoor
open Go
theorem band {a b : Bool} (ha : a = true) (hb : b = true) : (a && b) = true := by rw [ha, hb]; rfl
set_option maxRecDepth 100000 in
theorem joined : joinedFacts Tryz.prog 3 Tryz.f3 Rows.fnLayerValidSpec Rows.fnLayerValidRow = true := by
  unfold joinedFacts
  exact band (band (band (band (band (band (band (band (band (band (band (band (band (band (band (band (band (band (band (band (band (band (band (band (band (band (band (band (band (band (band (jf0) jf1) jf2) jf3) jf4) jf5) jf6) jf7) jf8) jf9) jf10) jf11) jf12) jf13) jf14) jf15) jf16) jf17) jf18) jf19) jf20) jf21) jf22) jf23) jf24) jf25) jf26) jf27) jf28) jf29) jf30) jf31
end Go.Proofs.YtlhncphipfkkjaaGreatDoor
