import Derived.Test.YtaohcejbjeaemaaGreatDoorJStackNipB
namespace Go.Proofs.YtaohcejbjeaemaaGreatDoor
open Go Go.RowKit

set_option maxHeartbeats 4000000 in
set_option maxRecDepth 1000000 in
theorem run_123 {w : World} {b : Nat} {d : Value} {e : Addr} {R : Ending → World → Prop} (h0 : w.cell? ⟨b, 0, none⟩ = some (.int .u8 123)) (hR : Hid (Calls Tryz.prog 113 #[.pointer (some ⟨b, 0, none⟩), d, .pointer (some e)] w R)) (hr : ∀ e w', R e w' → ∃ v, e = .returned v) :
    Calls Tryz.prog 70 #[.pointer (some ⟨b, 0, none⟩), d, .pointer (some e)] w R := by
  go_enter Tryz.func70, Tryz.ntmps70
  go_wp2_with fail
  refine hR.out.mono ?_
  intro e' w' h
  obtain ⟨v, rfl⟩ := hr _ _ h
  have HR := Lib.hid h
  clear h
  go_wp2_with fail
  exact HR.out

set_option maxHeartbeats 4000000 in
set_option maxRecDepth 1000000 in
theorem run_124 {w : World} {b : Nat} {d : Value} {e : Addr} {R : Ending → World → Prop} (h0 : w.cell? ⟨b, 0, none⟩ = some (.int .u8 124)) (hR : Hid (Calls Tryz.prog 114 #[.pointer (some ⟨b, 0, none⟩), d, .pointer (some e)] w R)) (hr : ∀ e w', R e w' → ∃ v, e = .returned v) :
    Calls Tryz.prog 70 #[.pointer (some ⟨b, 0, none⟩), d, .pointer (some e)] w R := by
  go_enter Tryz.func70, Tryz.ntmps70
  go_wp2_with fail
  refine hR.out.mono ?_
  intro e' w' h
  obtain ⟨v, rfl⟩ := hr _ _ h
  have HR := Lib.hid h
  clear h
  go_wp2_with fail
  exact HR.out

set_option maxHeartbeats 4000000 in
set_option maxRecDepth 1000000 in
theorem run_125 {w : World} {b : Nat} {d : Value} {e : Addr} {R : Ending → World → Prop} (h0 : w.cell? ⟨b, 0, none⟩ = some (.int .u8 125)) (hR : Hid (Calls Tryz.prog 115 #[.pointer (some ⟨b, 0, none⟩), d, .pointer (some e)] w R)) (hr : ∀ e w', R e w' → ∃ v, e = .returned v) :
    Calls Tryz.prog 70 #[.pointer (some ⟨b, 0, none⟩), d, .pointer (some e)] w R := by
  go_enter Tryz.func70, Tryz.ntmps70
  go_wp2_with fail
  refine hR.out.mono ?_
  intro e' w' h
  obtain ⟨v, rfl⟩ := hr _ _ h
  have HR := Lib.hid h
  clear h
  go_wp2_with fail
  exact HR.out

set_option maxHeartbeats 4000000 in
set_option maxRecDepth 1000000 in
theorem run_130 {w : World} {b : Nat} {d : Value} {e : Addr} {R : Ending → World → Prop} (h0 : w.cell? ⟨b, 0, none⟩ = some (.int .u8 130)) (hR : Hid (Calls Tryz.prog 117 #[.pointer (some ⟨b, 0, none⟩), d, .pointer (some e)] w R)) (hr : ∀ e w', R e w' → ∃ v, e = .returned v) :
    Calls Tryz.prog 70 #[.pointer (some ⟨b, 0, none⟩), d, .pointer (some e)] w R := by
  go_enter Tryz.func70, Tryz.ntmps70
  go_wp2_with fail
  refine hR.out.mono ?_
  intro e' w' h
  obtain ⟨v, rfl⟩ := hr _ _ h
  have HR := Lib.hid h
  clear h
  go_wp2_with fail
  exact HR.out

set_option maxHeartbeats 4000000 in
set_option maxRecDepth 1000000 in
theorem run_136 {w : World} {b : Nat} {d : Value} {e : Addr} {R : Ending → World → Prop} (h0 : w.cell? ⟨b, 0, none⟩ = some (.int .u8 136)) (hR : Hid (Calls Tryz.prog 119 #[.pointer (some ⟨b, 0, none⟩), d, .pointer (some e)] w R)) (hr : ∀ e w', R e w' → ∃ v, e = .returned v) :
    Calls Tryz.prog 70 #[.pointer (some ⟨b, 0, none⟩), d, .pointer (some e)] w R := by
  go_enter Tryz.func70, Tryz.ntmps70
  go_wp2_with fail
  refine hR.out.mono ?_
  intro e' w' h
  obtain ⟨v, rfl⟩ := hr _ _ h
  have HR := Lib.hid h
  clear h
  go_wp2_with fail
  exact HR.out

set_option maxHeartbeats 4000000 in
set_option maxRecDepth 1000000 in
theorem run_168 {w : World} {b : Nat} {d : Value} {e : Addr} {R : Ending → World → Prop} (h0 : w.cell? ⟨b, 0, none⟩ = some (.int .u8 168)) (hR : Hid (Calls Tryz.prog 142 #[.pointer (some ⟨b, 0, none⟩), d, .pointer (some e)] w R)) (hr : ∀ e w', R e w' → ∃ v, e = .returned v) :
    Calls Tryz.prog 70 #[.pointer (some ⟨b, 0, none⟩), d, .pointer (some e)] w R := by
  go_enter Tryz.func70, Tryz.ntmps70
  go_wp2_with fail
  refine hR.out.mono ?_
  intro e' w' h
  obtain ⟨v, rfl⟩ := hr _ _ h
  have HR := Lib.hid h
  clear h
  go_wp2_with fail
  exact HR.out

end Go.Proofs.YtaohcejbjeaemaaGreatDoor
