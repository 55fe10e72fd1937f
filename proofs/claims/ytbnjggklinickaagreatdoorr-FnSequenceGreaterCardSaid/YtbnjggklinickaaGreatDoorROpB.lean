import Derived.Test.YtbnjggklinickaaGreatDoorROpBase
namespace Go.Proofs.YtbnjggklinickaaGreatDoorR
open Go Go.RowKit

set_option maxHeartbeats 4000000 in
set_option maxRecDepth 1000000 in
theorem of_84 (w : World) : Calls Tryz.prog 53 #[.int .u8 84] w (OpMade 84 1 w) := by
  go_enter Tryz.func53, Tryz.ntmps53
  go_wp2
  go_ret
  exact ⟨_, rfl, rfl⟩
#print axioms of_84

set_option maxHeartbeats 4000000 in
set_option maxRecDepth 1000000 in
theorem of_85 (w : World) : Calls Tryz.prog 53 #[.int .u8 85] w (OpMade 85 1 w) := by
  go_enter Tryz.func53, Tryz.ntmps53
  go_wp2
  go_ret
  exact ⟨_, rfl, rfl⟩
#print axioms of_85

set_option maxHeartbeats 4000000 in
set_option maxRecDepth 1000000 in
theorem of_86 (w : World) : Calls Tryz.prog 53 #[.int .u8 86] w (OpMade 86 1 w) := by
  go_enter Tryz.func53, Tryz.ntmps53
  go_wp2
  go_ret
  exact ⟨_, rfl, rfl⟩
#print axioms of_86

set_option maxHeartbeats 4000000 in
set_option maxRecDepth 1000000 in
theorem of_87 (w : World) : Calls Tryz.prog 53 #[.int .u8 87] w (OpMade 87 1 w) := by
  go_enter Tryz.func53, Tryz.ntmps53
  go_wp2
  go_ret
  exact ⟨_, rfl, rfl⟩
#print axioms of_87

set_option maxHeartbeats 4000000 in
set_option maxRecDepth 1000000 in
theorem of_88 (w : World) : Calls Tryz.prog 53 #[.int .u8 88] w (OpMade 88 1 w) := by
  go_enter Tryz.func53, Tryz.ntmps53
  go_wp2
  go_ret
  exact ⟨_, rfl, rfl⟩
#print axioms of_88

set_option maxHeartbeats 4000000 in
set_option maxRecDepth 1000000 in
theorem of_89 (w : World) : Calls Tryz.prog 53 #[.int .u8 89] w (OpMade 89 1 w) := by
  go_enter Tryz.func53, Tryz.ntmps53
  go_wp2
  go_ret
  exact ⟨_, rfl, rfl⟩
#print axioms of_89

set_option maxHeartbeats 4000000 in
set_option maxRecDepth 1000000 in
theorem of_90 (w : World) : Calls Tryz.prog 53 #[.int .u8 90] w (OpMade 90 1 w) := by
  go_enter Tryz.func53, Tryz.ntmps53
  go_wp2
  go_ret
  exact ⟨_, rfl, rfl⟩
#print axioms of_90

end Go.Proofs.YtbnjggklinickaaGreatDoorR
