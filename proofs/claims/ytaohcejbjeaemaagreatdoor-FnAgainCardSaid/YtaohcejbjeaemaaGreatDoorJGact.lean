import Derived.Test.YtaohcejbjeaemaaGreatDoorJGactA
import Derived.Test.YtaohcejbjeaemaaGreatDoorJGactB
import Derived.Test.YtaohcejbjeaemaaGreatDoorJGactC
import Derived.Test.YtaohcejbjeaemaaGreatDoorJGactD
namespace Go.Proofs.YtaohcejbjeaemaaGreatDoor
open Go
theorem band {a b : Bool} (h : a = true) (k : b = true) : (a && b) = true := by rw [h, k]; rfl
set_option maxRecDepth 100000 in
theorem facts_all : joinedFacts Tryz.pinned.checked.prog 3 Tryz.f3 Rows.fnAgainSpec Rows.fnAgainRow = true := by
  unfold joinedFacts
  exact (band (band (band (band (band (band (band (band (band (band (band (band (band (band (band (band (band (band (band (band (band (band (band (band (band (band (band (band (band (band (band fact0 fact1) fact2) fact3) fact4) fact5) fact6) fact7) fact8) fact9) fact10) fact11) fact12) fact13) fact14) fact15) fact16) fact17) fact18) fact19) fact20) fact21) fact22) fact23) fact24) fact25) fact26) fact27) fact28) fact29) fact30) fact31)
end Go.Proofs.YtaohcejbjeaemaaGreatDoor
