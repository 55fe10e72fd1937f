import Derived.Test.YtaohcejbjeaemaaGreatDoorRows
import Derived.JoinedOf
import Derived.KernelRfl
namespace Go.Proofs.YtaohcejbjeaemaaGreatDoor
open Go
theorem fact0 : (fun (_P : Program) (_f : FuncId) (_fn : Func) (s : ChangeSpec) (c : OpenClaim) => (c.wf (OpenSpec.ofChange s) : Bool)) Tryz.pinned.checked.prog 3 Tryz.f3 Rows.fnAgainSpec Rows.fnAgainRow = true := by kernel_rfl
theorem fact4 : (fun (P : Program) (_f : FuncId) (_fn : Func) (s : ChangeSpec) (c : OpenClaim) => (namedTie P c.named s.vars : Bool)) Tryz.pinned.checked.prog 3 Tryz.f3 Rows.fnAgainSpec Rows.fnAgainRow = true := by kernel_rfl
theorem fact8 : (fun (P : Program) (_f : FuncId) (_fn : Func) (_s : ChangeSpec) (_c : OpenClaim) => ((P.stopKnobs == []) : Bool)) Tryz.pinned.checked.prog 3 Tryz.f3 Rows.fnAgainSpec Rows.fnAgainRow = true := by kernel_rfl
theorem fact12 : (fun (P : Program) (f : FuncId) (_fn : Func) (_s : ChangeSpec) (c : OpenClaim) => ((c.named == P.varsNamed f) : Bool)) Tryz.pinned.checked.prog 3 Tryz.f3 Rows.fnAgainSpec Rows.fnAgainRow = true := by kernel_rfl
theorem fact16 : (fun (P : Program) (_f : FuncId) (fn : Func) (s : ChangeSpec) (c : OpenClaim) => ((c.loops == (fn.params.toList ++ s.plain.varTypes P).any (P.loopsFrom ·)) : Bool)) Tryz.pinned.checked.prog 3 Tryz.f3 Rows.fnAgainSpec Rows.fnAgainRow = true := by kernel_rfl
theorem fact20 : (fun (P : Program) (_f : FuncId) (fn : Func) (_s : ChangeSpec) (c : OpenClaim) => ((c.ifacesOut == fn.resultTypes.toList.any (P.ifacesRec ·)) : Bool)) Tryz.pinned.checked.prog 3 Tryz.f3 Rows.fnAgainSpec Rows.fnAgainRow = true := by kernel_rfl
theorem fact24 : (fun (P : Program) (_f : FuncId) (_fn : Func) (_s : ChangeSpec) (_c : OpenClaim) => (P.stopsHeard : Bool)) Tryz.pinned.checked.prog 3 Tryz.f3 Rows.fnAgainSpec Rows.fnAgainRow = true := by kernel_rfl
theorem fact28 : (fun (P : Program) (_f : FuncId) (fn : Func) (_s : ChangeSpec) (c : OpenClaim) => ((c.kinds == (if c.domain.isEmpty then [] else fn.params.toList.map fun t => match P.underlying t with | some (.int k) => some k | _ => none)) : Bool)) Tryz.pinned.checked.prog 3 Tryz.f3 Rows.fnAgainSpec Rows.fnAgainRow = true := by kernel_rfl
end Go.Proofs.YtaohcejbjeaemaaGreatDoor
