import Derived.Test.YtbnjggklinickaaGreatDoorROpBase
namespace Go.Proofs.YtbnjggklinickaaGreatDoorR
open Go Go.RowKit

set_option maxHeartbeats 4000000 in
set_option maxRecDepth 1000000 in
theorem of_0 (w : World) : Calls Tryz.prog 53 #[.int .u8 0] w (OpMade 0 1 w) := by
  go_enter Tryz.func53, Tryz.ntmps53
  go_wp2
  go_ret
  exact ⟨_, rfl, rfl⟩
#print axioms of_0

set_option maxHeartbeats 4000000 in
set_option maxRecDepth 1000000 in
theorem of_1 (w : World) : Calls Tryz.prog 53 #[.int .u8 1] w (OpMade 1 2 w) := by
  go_enter Tryz.func53, Tryz.ntmps53
  go_wp2
  go_ret
  exact ⟨_, rfl, rfl⟩
#print axioms of_1

set_option maxHeartbeats 4000000 in
set_option maxRecDepth 1000000 in
theorem of_2 (w : World) : Calls Tryz.prog 53 #[.int .u8 2] w (OpMade 2 3 w) := by
  go_enter Tryz.func53, Tryz.ntmps53
  go_wp2
  go_ret
  exact ⟨_, rfl, rfl⟩
#print axioms of_2

set_option maxHeartbeats 4000000 in
set_option maxRecDepth 1000000 in
theorem of_3 (w : World) : Calls Tryz.prog 53 #[.int .u8 3] w (OpMade 3 4 w) := by
  go_enter Tryz.func53, Tryz.ntmps53
  go_wp2
  go_ret
  exact ⟨_, rfl, rfl⟩
#print axioms of_3

set_option maxHeartbeats 4000000 in
set_option maxRecDepth 1000000 in
theorem of_81 (w : World) : Calls Tryz.prog 53 #[.int .u8 81] w (OpMade 81 1 w) := by
  go_enter Tryz.func53, Tryz.ntmps53
  go_wp2
  go_ret
  exact ⟨_, rfl, rfl⟩
#print axioms of_81

set_option maxHeartbeats 4000000 in
set_option maxRecDepth 1000000 in
theorem of_82 (w : World) : Calls Tryz.prog 53 #[.int .u8 82] w (OpMade 82 1 w) := by
  go_enter Tryz.func53, Tryz.ntmps53
  go_wp2
  go_ret
  exact ⟨_, rfl, rfl⟩
#print axioms of_82

set_option maxHeartbeats 4000000 in
set_option maxRecDepth 1000000 in
theorem of_83 (w : World) : Calls Tryz.prog 53 #[.int .u8 83] w (OpMade 83 1 w) := by
  go_enter Tryz.func53, Tryz.ntmps53
  go_wp2
  go_ret
  exact ⟨_, rfl, rfl⟩
#print axioms of_83

end Go.Proofs.YtbnjggklinickaaGreatDoorR
