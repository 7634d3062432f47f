/- The row FnLayerValidSaid is proved: for every input the law returns true, and each argument reads behind the call as it read before; conditions: the listed package variables read as the row lays them. -/
import Derived.Test.YtlhncphipfkkjaaGreatDoorW15
import Derived.Test.YtlhncphipfkkjaaGreatDoorW16
/- The row 'FnLayerValid' proved: for every input the law returns true; each argument reads behind the call as it read before; conditions: the listed package variables read as the row lays them. -/
namespace Go.Proofs.YtlhncphipfkkjaaGreatDoor
open Go
theorem named3 : Tryz.prog.funcNamed "given.example/pub-lighterage/laws.FnLayerValid" = some 3 := by kernel_rfl
theorem inst3 : decide (Tryz.f3.isInstance Tryz.prog Rows.fnLayerValidRow.origin Rows.fnLayerValidRow.targs) = true := by kernel_rfl
theorem wrap3 : Tryz.f3.isWrapper Tryz.prog Rows.fnLayerValidRow.wrapper Rows.fnLayerValidRow.mainSum := by
  unfold Func.isWrapper
  first | (rw [if_pos (by decide +kernel)]; kernel_rfl) | (rw [if_neg (by decide +kernel)]; exact ⟨rfl, rfl⟩)
theorem fnLayerValid_holds : Rows.FnLayerValidSaid :=
  OpenClaim.holds_of_wide 3 Tryz.f3 rfl rfl rfl rfl rfl rfl rfl ⟨rfl, rfl, rfl, rfl, rfl⟩ rfl rfl rfl rfl rfl named3 Tryz.func3 joined
    (of_decide_eq_true inst3) wrap3
    (fun os started H enc _ => lifted os started H enc)
#print axioms fnLayerValid_holds
end Go.Proofs.YtlhncphipfkkjaaGreatDoor
