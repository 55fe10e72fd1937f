import Derived.Test.YtaohcejbjeaemaaGreatDoorRows
import Derived.JoinedOf
import Derived.KernelRfl
namespace Go.Proofs.YtaohcejbjeaemaaGreatDoor
open Go
theorem fact2 : (fun (P : Program) (_f : FuncId) (_fn : Func) (_s : ChangeSpec) (_c : OpenClaim) => (mapsRowed P : Bool)) Tryz.pinned.checked.prog 3 Tryz.f3 Rows.fnAgainSpec Rows.fnAgainRow = true := by kernel_rfl
theorem fact6 : (fun (P : Program) (_f : FuncId) (_fn : Func) (_s : ChangeSpec) (_c : OpenClaim) => ((P.stops == []) : Bool)) Tryz.pinned.checked.prog 3 Tryz.f3 Rows.fnAgainSpec Rows.fnAgainRow = true := by kernel_rfl
theorem fact10 : (fun (P : Program) (f : FuncId) (_fn : Func) (_s : ChangeSpec) (c : OpenClaim) => ((c.unfollowed == P.unfollowed f) : Bool)) Tryz.pinned.checked.prog 3 Tryz.f3 Rows.fnAgainSpec Rows.fnAgainRow = true := by kernel_rfl
theorem fact14 : (fun (P : Program) (_f : FuncId) (fn : Func) (s : ChangeSpec) (c : OpenClaim) => ((c.ifaces == (fn.params.toList ++ s.plain.varTypes P).any (P.ifacesRec ·)) : Bool)) Tryz.pinned.checked.prog 3 Tryz.f3 Rows.fnAgainSpec Rows.fnAgainRow = true := by kernel_rfl
theorem fact18 : (fun (P : Program) (_f : FuncId) (_fn : Func) (s : ChangeSpec) (_c : OpenClaim) => (s.vars.all (P.varReadable ·) : Bool)) Tryz.pinned.checked.prog 3 Tryz.f3 Rows.fnAgainSpec Rows.fnAgainRow = true := by kernel_rfl
theorem fact22 : (fun (P : Program) (_f : FuncId) (_fn : Func) (_s : ChangeSpec) (c : OpenClaim) => ((c.plainKeys == P.plainKeys) : Bool)) Tryz.pinned.checked.prog 3 Tryz.f3 Rows.fnAgainSpec Rows.fnAgainRow = true := by kernel_rfl
theorem fact26 : (fun (P : Program) (_f : FuncId) (_fn : Func) (_s : ChangeSpec) (c : OpenClaim) => ((c.lifted == P.liftsFinal) : Bool)) Tryz.pinned.checked.prog 3 Tryz.f3 Rows.fnAgainSpec Rows.fnAgainRow = true := by kernel_rfl
theorem fact30 : (fun (P : Program) (_f : FuncId) (fn : Func) (s : ChangeSpec) (c : OpenClaim) => ((c.veiled == (fn.params.toList ++ s.plain.varTypes P ++ fn.resultTypes.toList).any (P.veiledRec ·)) : Bool)) Tryz.pinned.checked.prog 3 Tryz.f3 Rows.fnAgainSpec Rows.fnAgainRow = true := by kernel_rfl
end Go.Proofs.YtaohcejbjeaemaaGreatDoor
