import Derived.Test.YtaohcejbjeaemaaGreatDoorJBitsOpBase
namespace Go.Proofs.YtaohcejbjeaemaaGreatDoor
open Go Go.RowKit

set_option maxHeartbeats 4000000 in
set_option maxRecDepth 1000000 in
theorem of_123 (w : World) : Calls Tryz.prog 62 #[.int .u8 123] w (OpMade 123 1 w) := by
  go_enter Tryz.func62, Tryz.ntmps62
  go_wp2
  go_ret
  exact ⟨_, rfl, rfl⟩

set_option maxHeartbeats 4000000 in
set_option maxRecDepth 1000000 in
theorem of_124 (w : World) : Calls Tryz.prog 62 #[.int .u8 124] w (OpMade 124 1 w) := by
  go_enter Tryz.func62, Tryz.ntmps62
  go_wp2
  go_ret
  exact ⟨_, rfl, rfl⟩

set_option maxHeartbeats 4000000 in
set_option maxRecDepth 1000000 in
theorem of_125 (w : World) : Calls Tryz.prog 62 #[.int .u8 125] w (OpMade 125 1 w) := by
  go_enter Tryz.func62, Tryz.ntmps62
  go_wp2
  go_ret
  exact ⟨_, rfl, rfl⟩

set_option maxHeartbeats 4000000 in
set_option maxRecDepth 1000000 in
theorem of_130 (w : World) : Calls Tryz.prog 62 #[.int .u8 130] w (OpMade 130 1 w) := by
  go_enter Tryz.func62, Tryz.ntmps62
  go_wp2
  go_ret
  exact ⟨_, rfl, rfl⟩

set_option maxHeartbeats 4000000 in
set_option maxRecDepth 1000000 in
theorem of_136 (w : World) : Calls Tryz.prog 62 #[.int .u8 136] w (OpMade 136 1 w) := by
  go_enter Tryz.func62, Tryz.ntmps62
  go_wp2
  go_ret
  exact ⟨_, rfl, rfl⟩

set_option maxHeartbeats 4000000 in
set_option maxRecDepth 1000000 in
theorem of_168 (w : World) : Calls Tryz.prog 62 #[.int .u8 168] w (OpMade 168 1 w) := by
  go_enter Tryz.func62, Tryz.ntmps62
  go_wp2
  go_ret
  exact ⟨_, rfl, rfl⟩

end Go.Proofs.YtaohcejbjeaemaaGreatDoor
