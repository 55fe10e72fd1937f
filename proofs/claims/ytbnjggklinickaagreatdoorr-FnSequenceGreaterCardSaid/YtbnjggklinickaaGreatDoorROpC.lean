import Derived.Test.YtbnjggklinickaaGreatDoorROpBase
namespace Go.Proofs.YtbnjggklinickaaGreatDoorR
open Go Go.RowKit

set_option maxHeartbeats 4000000 in
set_option maxRecDepth 1000000 in
theorem of_91 (w : World) : Calls Tryz.prog 53 #[.int .u8 91] w (OpMade 91 1 w) := by
  go_enter Tryz.func53, Tryz.ntmps53
  go_wp2
  go_ret
  exact ⟨_, rfl, rfl⟩
#print axioms of_91

set_option maxHeartbeats 4000000 in
set_option maxRecDepth 1000000 in
theorem of_92 (w : World) : Calls Tryz.prog 53 #[.int .u8 92] w (OpMade 92 1 w) := by
  go_enter Tryz.func53, Tryz.ntmps53
  go_wp2
  go_ret
  exact ⟨_, rfl, rfl⟩
#print axioms of_92

set_option maxHeartbeats 4000000 in
set_option maxRecDepth 1000000 in
theorem of_93 (w : World) : Calls Tryz.prog 53 #[.int .u8 93] w (OpMade 93 1 w) := by
  go_enter Tryz.func53, Tryz.ntmps53
  go_wp2
  go_ret
  exact ⟨_, rfl, rfl⟩
#print axioms of_93

set_option maxHeartbeats 4000000 in
set_option maxRecDepth 1000000 in
theorem of_94 (w : World) : Calls Tryz.prog 53 #[.int .u8 94] w (OpMade 94 1 w) := by
  go_enter Tryz.func53, Tryz.ntmps53
  go_wp2
  go_ret
  exact ⟨_, rfl, rfl⟩
#print axioms of_94

set_option maxHeartbeats 4000000 in
set_option maxRecDepth 1000000 in
theorem of_95 (w : World) : Calls Tryz.prog 53 #[.int .u8 95] w (OpMade 95 1 w) := by
  go_enter Tryz.func53, Tryz.ntmps53
  go_wp2
  go_ret
  exact ⟨_, rfl, rfl⟩
#print axioms of_95

set_option maxHeartbeats 4000000 in
set_option maxRecDepth 1000000 in
theorem of_96 (w : World) : Calls Tryz.prog 53 #[.int .u8 96] w (OpMade 96 1 w) := by
  go_enter Tryz.func53, Tryz.ntmps53
  go_wp2
  go_ret
  exact ⟨_, rfl, rfl⟩
#print axioms of_96

set_option maxHeartbeats 4000000 in
set_option maxRecDepth 1000000 in
theorem of_117 (w : World) : Calls Tryz.prog 53 #[.int .u8 117] w (OpMade 117 1 w) := by
  go_enter Tryz.func53, Tryz.ntmps53
  go_wp2
  go_ret
  exact ⟨_, rfl, rfl⟩
#print axioms of_117

set_option maxHeartbeats 4000000 in
set_option maxRecDepth 1000000 in
theorem of_178 (w : World) : Calls Tryz.prog 53 #[.int .u8 178] w (OpMade 178 1 w) := by
  go_enter Tryz.func53, Tryz.ntmps53
  go_wp2
  go_ret
  exact ⟨_, rfl, rfl⟩
#print axioms of_178

end Go.Proofs.YtbnjggklinickaaGreatDoorR
