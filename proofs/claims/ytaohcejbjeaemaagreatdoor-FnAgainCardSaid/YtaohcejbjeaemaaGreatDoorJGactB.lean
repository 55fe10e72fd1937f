import Derived.Test.YtaohcejbjeaemaaGreatDoorRows
import Derived.JoinedOf
import Derived.KernelRfl
namespace Go.Proofs.YtaohcejbjeaemaaGreatDoor
open Go
theorem fact1 : (fun (P : Program) (_f : FuncId) (_fn : Func) (_s : ChangeSpec) (_c : OpenClaim) => (laidOutB P : Bool)) Tryz.pinned.checked.prog 3 Tryz.f3 Rows.fnAgainSpec Rows.fnAgainRow = true := by kernel_rfl
theorem fact5 : (fun (_P : Program) (_f : FuncId) (_fn : Func) (_s : ChangeSpec) (c : OpenClaim) => ((c.stops == []) : Bool)) Tryz.pinned.checked.prog 3 Tryz.f3 Rows.fnAgainSpec Rows.fnAgainRow = true := by kernel_rfl
theorem fact9 : (fun (P : Program) (f : FuncId) (_fn : Func) (_s : ChangeSpec) (c : OpenClaim) => ((c.inPlace == P.inPlace f) : Bool)) Tryz.pinned.checked.prog 3 Tryz.f3 Rows.fnAgainSpec Rows.fnAgainRow = true := by kernel_rfl
theorem fact13 : (fun (P : Program) (_f : FuncId) (fn : Func) (s : ChangeSpec) (c : OpenClaim) => ((c.maps == (fn.params.toList ++ s.plain.varTypes P).any (P.mapsRec ·)) : Bool)) Tryz.pinned.checked.prog 3 Tryz.f3 Rows.fnAgainSpec Rows.fnAgainRow = true := by kernel_rfl
theorem fact17 : (fun (P : Program) (_f : FuncId) (fn : Func) (s : ChangeSpec) (c : OpenClaim) => ((c.wideKeys == (fn.params.toList ++ s.plain.varTypes P ++ fn.resultTypes.toList).any (P.wideKeysFrom ·)) : Bool)) Tryz.pinned.checked.prog 3 Tryz.f3 Rows.fnAgainSpec Rows.fnAgainRow = true := by kernel_rfl
theorem fact21 : (fun (P : Program) (_f : FuncId) (fn : Func) (_s : ChangeSpec) (c : OpenClaim) => ((c.loopsOut == fn.resultTypes.toList.any (P.loopsFrom ·)) : Bool)) Tryz.pinned.checked.prog 3 Tryz.f3 Rows.fnAgainSpec Rows.fnAgainRow = true := by kernel_rfl
theorem fact25 : (fun (P : Program) (_f : FuncId) (_fn : Func) (_s : ChangeSpec) (_c : OpenClaim) => (P.mayEnter : Bool)) Tryz.pinned.checked.prog 3 Tryz.f3 Rows.fnAgainSpec Rows.fnAgainRow = true := by kernel_rfl
theorem fact29 : (fun (_P : Program) (_f : FuncId) (_fn : Func) (_s : ChangeSpec) (c : OpenClaim) => ((c.pinned == c.pinnedBy) : Bool)) Tryz.pinned.checked.prog 3 Tryz.f3 Rows.fnAgainSpec Rows.fnAgainRow = true := by kernel_rfl
end Go.Proofs.YtaohcejbjeaemaaGreatDoor
