import Derived.Test.YtaohcejbjeaemaaGreatDoorJStackNipB
namespace Go.Proofs.YtaohcejbjeaemaaGreatDoor
open Go Go.RowKit

set_option maxHeartbeats 4000000 in
set_option maxRecDepth 1000000 in
theorem run_0 {w : World} {b : Nat} {d : Value} {e : Addr} {R : Ending → World → Prop} (h0 : w.cell? ⟨b, 0, none⟩ = some (.int .u8 0)) (hR : Hid (Calls Tryz.prog 83 #[.pointer (some ⟨b, 0, none⟩), d, .pointer (some e)] w R)) (hr : ∀ e w', R e w' → ∃ v, e = .returned v) :
    Calls Tryz.prog 70 #[.pointer (some ⟨b, 0, none⟩), d, .pointer (some e)] w R := by
  go_enter Tryz.func70, Tryz.ntmps70
  go_wp2_with fail
  refine hR.out.mono ?_
  intro e' w' h
  obtain ⟨v, rfl⟩ := hr _ _ h
  have HR := Lib.hid h
  clear h
  go_wp2_with fail
  exact HR.out

set_option maxHeartbeats 4000000 in
set_option maxRecDepth 1000000 in
theorem run_81 {w : World} {b : Nat} {d : Value} {e : Addr} {R : Ending → World → Prop} (h0 : w.cell? ⟨b, 0, none⟩ = some (.int .u8 81)) (hR : Hid (Calls Tryz.prog 87 #[.pointer (some ⟨b, 0, none⟩), d, .pointer (some e)] w R)) (hr : ∀ e w', R e w' → ∃ v, e = .returned v) :
    Calls Tryz.prog 70 #[.pointer (some ⟨b, 0, none⟩), d, .pointer (some e)] w R := by
  go_enter Tryz.func70, Tryz.ntmps70
  go_wp2_with fail
  refine hR.out.mono ?_
  intro e' w' h
  obtain ⟨v, rfl⟩ := hr _ _ h
  have HR := Lib.hid h
  clear h
  go_wp2_with fail
  exact HR.out

set_option maxHeartbeats 4000000 in
set_option maxRecDepth 1000000 in
theorem run_82 {w : World} {b : Nat} {d : Value} {e : Addr} {R : Ending → World → Prop} (h0 : w.cell? ⟨b, 0, none⟩ = some (.int .u8 82)) (hR : Hid (Calls Tryz.prog 87 #[.pointer (some ⟨b, 0, none⟩), d, .pointer (some e)] w R)) (hr : ∀ e w', R e w' → ∃ v, e = .returned v) :
    Calls Tryz.prog 70 #[.pointer (some ⟨b, 0, none⟩), d, .pointer (some e)] w R := by
  go_enter Tryz.func70, Tryz.ntmps70
  go_wp2_with fail
  refine hR.out.mono ?_
  intro e' w' h
  obtain ⟨v, rfl⟩ := hr _ _ h
  have HR := Lib.hid h
  clear h
  go_wp2_with fail
  exact HR.out

set_option maxHeartbeats 4000000 in
set_option maxRecDepth 1000000 in
theorem run_85 {w : World} {b : Nat} {d : Value} {e : Addr} {R : Ending → World → Prop} (h0 : w.cell? ⟨b, 0, none⟩ = some (.int .u8 85)) (hR : Hid (Calls Tryz.prog 87 #[.pointer (some ⟨b, 0, none⟩), d, .pointer (some e)] w R)) (hr : ∀ e w', R e w' → ∃ v, e = .returned v) :
    Calls Tryz.prog 70 #[.pointer (some ⟨b, 0, none⟩), d, .pointer (some e)] w R := by
  go_enter Tryz.func70, Tryz.ntmps70
  go_wp2_with fail
  refine hR.out.mono ?_
  intro e' w' h
  obtain ⟨v, rfl⟩ := hr _ _ h
  have HR := Lib.hid h
  clear h
  go_wp2_with fail
  exact HR.out

set_option maxHeartbeats 4000000 in
set_option maxRecDepth 1000000 in
theorem run_107 {w : World} {b : Nat} {d : Value} {e : Addr} {R : Ending → World → Prop} (h0 : w.cell? ⟨b, 0, none⟩ = some (.int .u8 107)) (hR : Hid (Calls Tryz.prog 97 #[.pointer (some ⟨b, 0, none⟩), d, .pointer (some e)] w R)) (hr : ∀ e w', R e w' → ∃ v, e = .returned v) :
    Calls Tryz.prog 70 #[.pointer (some ⟨b, 0, none⟩), d, .pointer (some e)] w R := by
  go_enter Tryz.func70, Tryz.ntmps70
  go_wp2_with fail
  refine hR.out.mono ?_
  intro e' w' h
  obtain ⟨v, rfl⟩ := hr _ _ h
  have HR := Lib.hid h
  clear h
  go_wp2_with fail
  exact HR.out

set_option maxHeartbeats 4000000 in
set_option maxRecDepth 1000000 in
theorem run_108 {w : World} {b : Nat} {d : Value} {e : Addr} {R : Ending → World → Prop} (h0 : w.cell? ⟨b, 0, none⟩ = some (.int .u8 108)) (hR : Hid (Calls Tryz.prog 98 #[.pointer (some ⟨b, 0, none⟩), d, .pointer (some e)] w R)) (hr : ∀ e w', R e w' → ∃ v, e = .returned v) :
    Calls Tryz.prog 70 #[.pointer (some ⟨b, 0, none⟩), d, .pointer (some e)] w R := by
  go_enter Tryz.func70, Tryz.ntmps70
  go_wp2_with fail
  refine hR.out.mono ?_
  intro e' w' h
  obtain ⟨v, rfl⟩ := hr _ _ h
  have HR := Lib.hid h
  clear h
  go_wp2_with fail
  exact HR.out

end Go.Proofs.YtaohcejbjeaemaaGreatDoor
