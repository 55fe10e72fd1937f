import Derived.Test.YtaohcejbjeaemaaGreatDoorJBitsOpBase
namespace Go.Proofs.YtaohcejbjeaemaaGreatDoor
open Go Go.RowKit

set_option maxHeartbeats 4000000 in
set_option maxRecDepth 1000000 in
theorem of_117 (w : World) : Calls Tryz.prog 62 #[.int .u8 117] w (OpMade 117 1 w) := by
  go_enter Tryz.func62, Tryz.ntmps62
  go_wp2
  go_ret
  exact ⟨_, rfl, rfl⟩

set_option maxHeartbeats 4000000 in
set_option maxRecDepth 1000000 in
theorem of_118 (w : World) : Calls Tryz.prog 62 #[.int .u8 118] w (OpMade 118 1 w) := by
  go_enter Tryz.func62, Tryz.ntmps62
  go_wp2
  go_ret
  exact ⟨_, rfl, rfl⟩

set_option maxHeartbeats 4000000 in
set_option maxRecDepth 1000000 in
theorem of_119 (w : World) : Calls Tryz.prog 62 #[.int .u8 119] w (OpMade 119 1 w) := by
  go_enter Tryz.func62, Tryz.ntmps62
  go_wp2
  go_ret
  exact ⟨_, rfl, rfl⟩

set_option maxHeartbeats 4000000 in
set_option maxRecDepth 1000000 in
theorem of_120 (w : World) : Calls Tryz.prog 62 #[.int .u8 120] w (OpMade 120 1 w) := by
  go_enter Tryz.func62, Tryz.ntmps62
  go_wp2
  go_ret
  exact ⟨_, rfl, rfl⟩

set_option maxHeartbeats 4000000 in
set_option maxRecDepth 1000000 in
theorem of_121 (w : World) : Calls Tryz.prog 62 #[.int .u8 121] w (OpMade 121 1 w) := by
  go_enter Tryz.func62, Tryz.ntmps62
  go_wp2
  go_ret
  exact ⟨_, rfl, rfl⟩

set_option maxHeartbeats 4000000 in
set_option maxRecDepth 1000000 in
theorem of_122 (w : World) : Calls Tryz.prog 62 #[.int .u8 122] w (OpMade 122 1 w) := by
  go_enter Tryz.func62, Tryz.ntmps62
  go_wp2
  go_ret
  exact ⟨_, rfl, rfl⟩

end Go.Proofs.YtaohcejbjeaemaaGreatDoor
