import Derived.Test.YtaohcejbjeaemaaGreatDoorRows
import Derived.JoinedOf
import Derived.KernelRfl
namespace Go.Proofs.YtaohcejbjeaemaaGreatDoor
open Go
theorem fact3 : (fun (P : Program) (_f : FuncId) (fn : Func) (_s : ChangeSpec) (_c : OpenClaim) => (fn.params.all (P.readableRec ·) : Bool)) Tryz.pinned.checked.prog 3 Tryz.f3 Rows.fnAgainSpec Rows.fnAgainRow = true := by kernel_rfl
theorem fact7 : (fun (_P : Program) (_f : FuncId) (_fn : Func) (_s : ChangeSpec) (c : OpenClaim) => ((c.knobs == []) : Bool)) Tryz.pinned.checked.prog 3 Tryz.f3 Rows.fnAgainSpec Rows.fnAgainRow = true := by kernel_rfl
theorem fact11 : (fun (P : Program) (f : FuncId) (_fn : Func) (_s : ChangeSpec) (c : OpenClaim) => ((c.recurses == P.recurses f) : Bool)) Tryz.pinned.checked.prog 3 Tryz.f3 Rows.fnAgainSpec Rows.fnAgainRow = true := by kernel_rfl
theorem fact15 : (fun (P : Program) (_f : FuncId) (fn : Func) (_s : ChangeSpec) (c : OpenClaim) => ((c.mapsOut == P.mapsAmong fn.resultTypes.toList) : Bool)) Tryz.pinned.checked.prog 3 Tryz.f3 Rows.fnAgainSpec Rows.fnAgainRow = true := by kernel_rfl
theorem fact19 : (fun (P : Program) (_f : FuncId) (fn : Func) (_s : ChangeSpec) (_c : OpenClaim) => (fn.resultTypes.all (fun t => P.readableRec t && decide (t < P.types.size)) : Bool)) Tryz.pinned.checked.prog 3 Tryz.f3 Rows.fnAgainSpec Rows.fnAgainRow = true := by kernel_rfl
theorem fact23 : (fun (_P : Program) (_f : FuncId) (_fn : Func) (_s : ChangeSpec) (c : OpenClaim) => (c.shortTexts.isNone : Bool)) Tryz.pinned.checked.prog 3 Tryz.f3 Rows.fnAgainSpec Rows.fnAgainRow = true := by kernel_rfl
theorem fact27 : (fun (P : Program) (_f : FuncId) (_fn : Func) (_s : ChangeSpec) (c : OpenClaim) => ((P.make == some c.make) : Bool)) Tryz.pinned.checked.prog 3 Tryz.f3 Rows.fnAgainSpec Rows.fnAgainRow = true := by kernel_rfl
theorem fact31 : (fun (P : Program) (_f : FuncId) (fn : Func) (s : ChangeSpec) (c : OpenClaim) => (c.veiledFits P fn.params.toList (fn.params.toList ++ s.plain.varTypes P ++ fn.resultTypes.toList) : Bool)) Tryz.pinned.checked.prog 3 Tryz.f3 Rows.fnAgainSpec Rows.fnAgainRow = true := by kernel_rfl
end Go.Proofs.YtaohcejbjeaemaaGreatDoor
