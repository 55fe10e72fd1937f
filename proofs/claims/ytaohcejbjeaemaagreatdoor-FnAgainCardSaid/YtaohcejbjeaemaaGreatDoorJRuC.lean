import Derived.Test.YtaohcejbjeaemaaGreatDoorJStackNipB
namespace Go.Proofs.YtaohcejbjeaemaaGreatDoor
open Go Go.RowKit

set_option maxHeartbeats 4000000 in
set_option maxRecDepth 1000000 in
theorem run_117 {w : World} {b : Nat} {d : Value} {e : Addr} {R : Ending → World → Prop} (h0 : w.cell? ⟨b, 0, none⟩ = some (.int .u8 117)) (hR : Hid (Calls Tryz.prog 107 #[.pointer (some ⟨b, 0, none⟩), d, .pointer (some e)] w R)) (hr : ∀ e w', R e w' → ∃ v, e = .returned v) :
    Calls Tryz.prog 70 #[.pointer (some ⟨b, 0, none⟩), d, .pointer (some e)] w R := by
  go_enter Tryz.func70, Tryz.ntmps70
  go_wp2_with fail
  refine hR.out.mono ?_
  intro e' w' h
  obtain ⟨v, rfl⟩ := hr _ _ h
  have HR := Lib.hid h
  clear h
  go_wp2_with fail
  exact HR.out

set_option maxHeartbeats 4000000 in
set_option maxRecDepth 1000000 in
theorem run_118 {w : World} {b : Nat} {d : Value} {e : Addr} {R : Ending → World → Prop} (h0 : w.cell? ⟨b, 0, none⟩ = some (.int .u8 118)) (hR : Hid (Calls Tryz.prog 108 #[.pointer (some ⟨b, 0, none⟩), d, .pointer (some e)] w R)) (hr : ∀ e w', R e w' → ∃ v, e = .returned v) :
    Calls Tryz.prog 70 #[.pointer (some ⟨b, 0, none⟩), d, .pointer (some e)] w R := by
  go_enter Tryz.func70, Tryz.ntmps70
  go_wp2_with fail
  refine hR.out.mono ?_
  intro e' w' h
  obtain ⟨v, rfl⟩ := hr _ _ h
  have HR := Lib.hid h
  clear h
  go_wp2_with fail
  exact HR.out

set_option maxHeartbeats 4000000 in
set_option maxRecDepth 1000000 in
theorem run_119 {w : World} {b : Nat} {d : Value} {e : Addr} {R : Ending → World → Prop} (h0 : w.cell? ⟨b, 0, none⟩ = some (.int .u8 119)) (hR : Hid (Calls Tryz.prog 109 #[.pointer (some ⟨b, 0, none⟩), d, .pointer (some e)] w R)) (hr : ∀ e w', R e w' → ∃ v, e = .returned v) :
    Calls Tryz.prog 70 #[.pointer (some ⟨b, 0, none⟩), d, .pointer (some e)] w R := by
  go_enter Tryz.func70, Tryz.ntmps70
  go_wp2_with fail
  refine hR.out.mono ?_
  intro e' w' h
  obtain ⟨v, rfl⟩ := hr _ _ h
  have HR := Lib.hid h
  clear h
  go_wp2_with fail
  exact HR.out

set_option maxHeartbeats 4000000 in
set_option maxRecDepth 1000000 in
theorem run_120 {w : World} {b : Nat} {d : Value} {e : Addr} {R : Ending → World → Prop} (h0 : w.cell? ⟨b, 0, none⟩ = some (.int .u8 120)) (hR : Hid (Calls Tryz.prog 110 #[.pointer (some ⟨b, 0, none⟩), d, .pointer (some e)] w R)) (hr : ∀ e w', R e w' → ∃ v, e = .returned v) :
    Calls Tryz.prog 70 #[.pointer (some ⟨b, 0, none⟩), d, .pointer (some e)] w R := by
  go_enter Tryz.func70, Tryz.ntmps70
  go_wp2_with fail
  refine hR.out.mono ?_
  intro e' w' h
  obtain ⟨v, rfl⟩ := hr _ _ h
  have HR := Lib.hid h
  clear h
  go_wp2_with fail
  exact HR.out

set_option maxHeartbeats 4000000 in
set_option maxRecDepth 1000000 in
theorem run_121 {w : World} {b : Nat} {d : Value} {e : Addr} {R : Ending → World → Prop} (h0 : w.cell? ⟨b, 0, none⟩ = some (.int .u8 121)) (hR : Hid (Calls Tryz.prog 111 #[.pointer (some ⟨b, 0, none⟩), d, .pointer (some e)] w R)) (hr : ∀ e w', R e w' → ∃ v, e = .returned v) :
    Calls Tryz.prog 70 #[.pointer (some ⟨b, 0, none⟩), d, .pointer (some e)] w R := by
  go_enter Tryz.func70, Tryz.ntmps70
  go_wp2_with fail
  refine hR.out.mono ?_
  intro e' w' h
  obtain ⟨v, rfl⟩ := hr _ _ h
  have HR := Lib.hid h
  clear h
  go_wp2_with fail
  exact HR.out

set_option maxHeartbeats 4000000 in
set_option maxRecDepth 1000000 in
theorem run_122 {w : World} {b : Nat} {d : Value} {e : Addr} {R : Ending → World → Prop} (h0 : w.cell? ⟨b, 0, none⟩ = some (.int .u8 122)) (hR : Hid (Calls Tryz.prog 112 #[.pointer (some ⟨b, 0, none⟩), d, .pointer (some e)] w R)) (hr : ∀ e w', R e w' → ∃ v, e = .returned v) :
    Calls Tryz.prog 70 #[.pointer (some ⟨b, 0, none⟩), d, .pointer (some e)] w R := by
  go_enter Tryz.func70, Tryz.ntmps70
  go_wp2_with fail
  refine hR.out.mono ?_
  intro e' w' h
  obtain ⟨v, rfl⟩ := hr _ _ h
  have HR := Lib.hid h
  clear h
  go_wp2_with fail
  exact HR.out

end Go.Proofs.YtaohcejbjeaemaaGreatDoor
