import Derived.Test.YtbnjggklinickaaGreatDoorRStack
namespace Go.Proofs.YtbnjggklinickaaGreatDoorR
open Go Go.RowKit

set_option maxHeartbeats 4000000 in
set_option maxRecDepth 1000000 in
theorem run_0 {w : World} {b : Nat} {d : Value} {e : Addr} {R : Ending → World → Prop} (h0 : w.cell? ⟨b, 0, none⟩ = some (.int .u8 0)) (hR : Hid (Calls Tryz.prog 75 #[.pointer (some ⟨b, 0, none⟩), d, .pointer (some e)] w R)) (hr : ∀ e w', R e w' → ∃ v, e = .returned v) :
    Calls Tryz.prog 61 #[.pointer (some ⟨b, 0, none⟩), d, .pointer (some e)] w R := by
  go_enter Tryz.func61, Tryz.ntmps61
  go_wp2_with fail
  refine hR.out.mono ?_
  intro e' w' h
  obtain ⟨v, rfl⟩ := hr _ _ h
  have HR := Lib.hid h
  clear h
  go_wp2_with fail
  exact HR.out
#print axioms run_0

set_option maxHeartbeats 4000000 in
set_option maxRecDepth 1000000 in
theorem run_1 {w : World} {b : Nat} {d : Value} {e : Addr} {R : Ending → World → Prop} (h0 : w.cell? ⟨b, 0, none⟩ = some (.int .u8 1)) (hR : Hid (Calls Tryz.prog 76 #[.pointer (some ⟨b, 0, none⟩), d, .pointer (some e)] w R)) (hr : ∀ e w', R e w' → ∃ v, e = .returned v) :
    Calls Tryz.prog 61 #[.pointer (some ⟨b, 0, none⟩), d, .pointer (some e)] w R := by
  go_enter Tryz.func61, Tryz.ntmps61
  go_wp2_with fail
  refine hR.out.mono ?_
  intro e' w' h
  obtain ⟨v, rfl⟩ := hr _ _ h
  have HR := Lib.hid h
  clear h
  go_wp2_with fail
  exact HR.out
#print axioms run_1

set_option maxHeartbeats 4000000 in
set_option maxRecDepth 1000000 in
theorem run_2 {w : World} {b : Nat} {d : Value} {e : Addr} {R : Ending → World → Prop} (h0 : w.cell? ⟨b, 0, none⟩ = some (.int .u8 2)) (hR : Hid (Calls Tryz.prog 76 #[.pointer (some ⟨b, 0, none⟩), d, .pointer (some e)] w R)) (hr : ∀ e w', R e w' → ∃ v, e = .returned v) :
    Calls Tryz.prog 61 #[.pointer (some ⟨b, 0, none⟩), d, .pointer (some e)] w R := by
  go_enter Tryz.func61, Tryz.ntmps61
  go_wp2_with fail
  refine hR.out.mono ?_
  intro e' w' h
  obtain ⟨v, rfl⟩ := hr _ _ h
  have HR := Lib.hid h
  clear h
  go_wp2_with fail
  exact HR.out
#print axioms run_2

set_option maxHeartbeats 4000000 in
set_option maxRecDepth 1000000 in
theorem run_3 {w : World} {b : Nat} {d : Value} {e : Addr} {R : Ending → World → Prop} (h0 : w.cell? ⟨b, 0, none⟩ = some (.int .u8 3)) (hR : Hid (Calls Tryz.prog 76 #[.pointer (some ⟨b, 0, none⟩), d, .pointer (some e)] w R)) (hr : ∀ e w', R e w' → ∃ v, e = .returned v) :
    Calls Tryz.prog 61 #[.pointer (some ⟨b, 0, none⟩), d, .pointer (some e)] w R := by
  go_enter Tryz.func61, Tryz.ntmps61
  go_wp2_with fail
  refine hR.out.mono ?_
  intro e' w' h
  obtain ⟨v, rfl⟩ := hr _ _ h
  have HR := Lib.hid h
  clear h
  go_wp2_with fail
  exact HR.out
#print axioms run_3

set_option maxHeartbeats 4000000 in
set_option maxRecDepth 1000000 in
theorem run_117 {w : World} {b : Nat} {d : Value} {e : Addr} {R : Ending → World → Prop} (h0 : w.cell? ⟨b, 0, none⟩ = some (.int .u8 117)) (hR : Hid (Calls Tryz.prog 99 #[.pointer (some ⟨b, 0, none⟩), d, .pointer (some e)] w R)) (hr : ∀ e w', R e w' → ∃ v, e = .returned v) :
    Calls Tryz.prog 61 #[.pointer (some ⟨b, 0, none⟩), d, .pointer (some e)] w R := by
  go_enter Tryz.func61, Tryz.ntmps61
  go_wp2_with fail
  refine hR.out.mono ?_
  intro e' w' h
  obtain ⟨v, rfl⟩ := hr _ _ h
  have HR := Lib.hid h
  clear h
  go_wp2_with fail
  exact HR.out
#print axioms run_117

set_option maxHeartbeats 4000000 in
set_option maxRecDepth 1000000 in
theorem run_178 {w : World} {b : Nat} {d : Value} {e : Addr} {R : Ending → World → Prop} (h0 : w.cell? ⟨b, 0, none⟩ = some (.int .u8 178)) (hR : Hid (Calls Tryz.prog 88 #[.pointer (some ⟨b, 0, none⟩), d, .pointer (some e)] w R)) (hr : ∀ e w', R e w' → ∃ v, e = .returned v) :
    Calls Tryz.prog 61 #[.pointer (some ⟨b, 0, none⟩), d, .pointer (some e)] w R := by
  go_enter Tryz.func61, Tryz.ntmps61
  go_wp2_with fail
  refine hR.out.mono ?_
  intro e' w' h
  obtain ⟨v, rfl⟩ := hr _ _ h
  have HR := Lib.hid h
  clear h
  go_wp2_with fail
  exact HR.out
#print axioms run_178

end Go.Proofs.YtbnjggklinickaaGreatDoorR
