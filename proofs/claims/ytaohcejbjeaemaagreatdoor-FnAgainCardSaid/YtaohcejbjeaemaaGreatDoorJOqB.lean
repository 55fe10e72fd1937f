import Derived.Test.YtaohcejbjeaemaaGreatDoorJBitsOpBase
namespace Go.Proofs.YtaohcejbjeaemaaGreatDoor
open Go Go.RowKit

set_option maxHeartbeats 4000000 in
set_option maxRecDepth 1000000 in
theorem of_109 (w : World) : Calls Tryz.prog 62 #[.int .u8 109] w (OpMade 109 1 w) := by
  go_enter Tryz.func62, Tryz.ntmps62
  go_wp2
  go_ret
  exact ⟨_, rfl, rfl⟩

set_option maxHeartbeats 4000000 in
set_option maxRecDepth 1000000 in
theorem of_110 (w : World) : Calls Tryz.prog 62 #[.int .u8 110] w (OpMade 110 1 w) := by
  go_enter Tryz.func62, Tryz.ntmps62
  go_wp2
  go_ret
  exact ⟨_, rfl, rfl⟩

set_option maxHeartbeats 4000000 in
set_option maxRecDepth 1000000 in
theorem of_111 (w : World) : Calls Tryz.prog 62 #[.int .u8 111] w (OpMade 111 1 w) := by
  go_enter Tryz.func62, Tryz.ntmps62
  go_wp2
  go_ret
  exact ⟨_, rfl, rfl⟩

set_option maxHeartbeats 4000000 in
set_option maxRecDepth 1000000 in
theorem of_112 (w : World) : Calls Tryz.prog 62 #[.int .u8 112] w (OpMade 112 1 w) := by
  go_enter Tryz.func62, Tryz.ntmps62
  go_wp2
  go_ret
  exact ⟨_, rfl, rfl⟩

set_option maxHeartbeats 4000000 in
set_option maxRecDepth 1000000 in
theorem of_113 (w : World) : Calls Tryz.prog 62 #[.int .u8 113] w (OpMade 113 1 w) := by
  go_enter Tryz.func62, Tryz.ntmps62
  go_wp2
  go_ret
  exact ⟨_, rfl, rfl⟩

set_option maxHeartbeats 4000000 in
set_option maxRecDepth 1000000 in
theorem of_114 (w : World) : Calls Tryz.prog 62 #[.int .u8 114] w (OpMade 114 1 w) := by
  go_enter Tryz.func62, Tryz.ntmps62
  go_wp2
  go_ret
  exact ⟨_, rfl, rfl⟩

end Go.Proofs.YtaohcejbjeaemaaGreatDoor
