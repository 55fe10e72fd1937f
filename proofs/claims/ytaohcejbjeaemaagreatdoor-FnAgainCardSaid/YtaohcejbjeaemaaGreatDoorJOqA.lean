import Derived.Test.YtaohcejbjeaemaaGreatDoorJBitsOpBase
namespace Go.Proofs.YtaohcejbjeaemaaGreatDoor
open Go Go.RowKit

set_option maxHeartbeats 4000000 in
set_option maxRecDepth 1000000 in
theorem of_0 (w : World) : Calls Tryz.prog 62 #[.int .u8 0] w (OpMade 0 1 w) := by
  go_enter Tryz.func62, Tryz.ntmps62
  go_wp2
  go_ret
  exact ⟨_, rfl, rfl⟩

set_option maxHeartbeats 4000000 in
set_option maxRecDepth 1000000 in
theorem of_81 (w : World) : Calls Tryz.prog 62 #[.int .u8 81] w (OpMade 81 1 w) := by
  go_enter Tryz.func62, Tryz.ntmps62
  go_wp2
  go_ret
  exact ⟨_, rfl, rfl⟩

set_option maxHeartbeats 4000000 in
set_option maxRecDepth 1000000 in
theorem of_82 (w : World) : Calls Tryz.prog 62 #[.int .u8 82] w (OpMade 82 1 w) := by
  go_enter Tryz.func62, Tryz.ntmps62
  go_wp2
  go_ret
  exact ⟨_, rfl, rfl⟩

set_option maxHeartbeats 4000000 in
set_option maxRecDepth 1000000 in
theorem of_85 (w : World) : Calls Tryz.prog 62 #[.int .u8 85] w (OpMade 85 1 w) := by
  go_enter Tryz.func62, Tryz.ntmps62
  go_wp2
  go_ret
  exact ⟨_, rfl, rfl⟩

set_option maxHeartbeats 4000000 in
set_option maxRecDepth 1000000 in
theorem of_107 (w : World) : Calls Tryz.prog 62 #[.int .u8 107] w (OpMade 107 1 w) := by
  go_enter Tryz.func62, Tryz.ntmps62
  go_wp2
  go_ret
  exact ⟨_, rfl, rfl⟩

set_option maxHeartbeats 4000000 in
set_option maxRecDepth 1000000 in
theorem of_108 (w : World) : Calls Tryz.prog 62 #[.int .u8 108] w (OpMade 108 1 w) := by
  go_enter Tryz.func62, Tryz.ntmps62
  go_wp2
  go_ret
  exact ⟨_, rfl, rfl⟩

end Go.Proofs.YtaohcejbjeaemaaGreatDoor
