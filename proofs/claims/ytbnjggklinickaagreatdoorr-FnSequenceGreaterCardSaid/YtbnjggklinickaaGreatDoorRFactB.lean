import Derived.Test.YtbnjggklinickaaGreatDoorRRows
import Derived.JoinedOf
import Derived.KernelRfl
namespace Go.Proofs.YtbnjggklinickaaGreatDoorR
open Go
theorem fact1 : (fun (P : Program) (f : FuncId) (fn : Func) (s : ChangeSpec) (c : OpenClaim) => (laidOutB P : Bool)) Tryz.pinned.checked.prog 3 Tryz.f3 Rows.fnSequenceGreaterSpec Rows.fnSequenceGreaterRow = true := by kernel_rfl
theorem fact5 : (fun (P : Program) (f : FuncId) (fn : Func) (s : ChangeSpec) (c : OpenClaim) => ((c.stops == []) : Bool)) Tryz.pinned.checked.prog 3 Tryz.f3 Rows.fnSequenceGreaterSpec Rows.fnSequenceGreaterRow = true := by kernel_rfl
theorem fact9 : (fun (P : Program) (f : FuncId) (fn : Func) (s : ChangeSpec) (c : OpenClaim) => ((c.inPlace == P.inPlace f) : Bool)) Tryz.pinned.checked.prog 3 Tryz.f3 Rows.fnSequenceGreaterSpec Rows.fnSequenceGreaterRow = true := by kernel_rfl
theorem fact13 : (fun (P : Program) (f : FuncId) (fn : Func) (s : ChangeSpec) (c : OpenClaim) => ((c.maps == (fn.params.toList ++ s.plain.varTypes P).any (P.mapsRec ·)) : Bool)) Tryz.pinned.checked.prog 3 Tryz.f3 Rows.fnSequenceGreaterSpec Rows.fnSequenceGreaterRow = true := by kernel_rfl
theorem fact17 : (fun (P : Program) (f : FuncId) (fn : Func) (s : ChangeSpec) (c : OpenClaim) => ((c.wideKeys == (fn.params.toList ++ s.plain.varTypes P ++ fn.resultTypes.toList).any (P.wideKeysFrom ·)) : Bool)) Tryz.pinned.checked.prog 3 Tryz.f3 Rows.fnSequenceGreaterSpec Rows.fnSequenceGreaterRow = true := by kernel_rfl
theorem fact21 : (fun (P : Program) (f : FuncId) (fn : Func) (s : ChangeSpec) (c : OpenClaim) => ((c.loopsOut == fn.resultTypes.toList.any (P.loopsFrom ·)) : Bool)) Tryz.pinned.checked.prog 3 Tryz.f3 Rows.fnSequenceGreaterSpec Rows.fnSequenceGreaterRow = true := by kernel_rfl
theorem fact25 : (fun (P : Program) (f : FuncId) (fn : Func) (s : ChangeSpec) (c : OpenClaim) => (P.mayEnter : Bool)) Tryz.pinned.checked.prog 3 Tryz.f3 Rows.fnSequenceGreaterSpec Rows.fnSequenceGreaterRow = true := by kernel_rfl
theorem fact29 : (fun (P : Program) (f : FuncId) (fn : Func) (s : ChangeSpec) (c : OpenClaim) => ((c.pinned == c.pinnedBy) : Bool)) Tryz.pinned.checked.prog 3 Tryz.f3 Rows.fnSequenceGreaterSpec Rows.fnSequenceGreaterRow = true := by kernel_rfl
end Go.Proofs.YtbnjggklinickaaGreatDoorR
