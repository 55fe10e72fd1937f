import Derived.Test.YtbnjggklinickaaGreatDoorRStack
namespace Go.Proofs.YtbnjggklinickaaGreatDoorR
open Go Go.RowKit

set_option maxHeartbeats 4000000 in
set_option maxRecDepth 1000000 in
theorem run_81 {w : World} {b : Nat} {d : Value} {e : Addr} {R : Ending → World → Prop} (h0 : w.cell? ⟨b, 0, none⟩ = some (.int .u8 81)) (hR : Hid (Calls Tryz.prog 79 #[.pointer (some ⟨b, 0, none⟩), d, .pointer (some e)] w R)) (hr : ∀ e w', R e w' → ∃ v, e = .returned v) :
    Calls Tryz.prog 61 #[.pointer (some ⟨b, 0, none⟩), d, .pointer (some e)] w R := by
  go_enter Tryz.func61, Tryz.ntmps61
  go_wp2_with fail
  refine hR.out.mono ?_
  intro e' w' h
  obtain ⟨v, rfl⟩ := hr _ _ h
  have HR := Lib.hid h
  clear h
  go_wp2_with fail
  exact HR.out
#print axioms run_81

set_option maxHeartbeats 4000000 in
set_option maxRecDepth 1000000 in
theorem run_82 {w : World} {b : Nat} {d : Value} {e : Addr} {R : Ending → World → Prop} (h0 : w.cell? ⟨b, 0, none⟩ = some (.int .u8 82)) (hR : Hid (Calls Tryz.prog 79 #[.pointer (some ⟨b, 0, none⟩), d, .pointer (some e)] w R)) (hr : ∀ e w', R e w' → ∃ v, e = .returned v) :
    Calls Tryz.prog 61 #[.pointer (some ⟨b, 0, none⟩), d, .pointer (some e)] w R := by
  go_enter Tryz.func61, Tryz.ntmps61
  go_wp2_with fail
  refine hR.out.mono ?_
  intro e' w' h
  obtain ⟨v, rfl⟩ := hr _ _ h
  have HR := Lib.hid h
  clear h
  go_wp2_with fail
  exact HR.out
#print axioms run_82

set_option maxHeartbeats 4000000 in
set_option maxRecDepth 1000000 in
theorem run_83 {w : World} {b : Nat} {d : Value} {e : Addr} {R : Ending → World → Prop} (h0 : w.cell? ⟨b, 0, none⟩ = some (.int .u8 83)) (hR : Hid (Calls Tryz.prog 79 #[.pointer (some ⟨b, 0, none⟩), d, .pointer (some e)] w R)) (hr : ∀ e w', R e w' → ∃ v, e = .returned v) :
    Calls Tryz.prog 61 #[.pointer (some ⟨b, 0, none⟩), d, .pointer (some e)] w R := by
  go_enter Tryz.func61, Tryz.ntmps61
  go_wp2_with fail
  refine hR.out.mono ?_
  intro e' w' h
  obtain ⟨v, rfl⟩ := hr _ _ h
  have HR := Lib.hid h
  clear h
  go_wp2_with fail
  exact HR.out
#print axioms run_83

set_option maxHeartbeats 4000000 in
set_option maxRecDepth 1000000 in
theorem run_84 {w : World} {b : Nat} {d : Value} {e : Addr} {R : Ending → World → Prop} (h0 : w.cell? ⟨b, 0, none⟩ = some (.int .u8 84)) (hR : Hid (Calls Tryz.prog 79 #[.pointer (some ⟨b, 0, none⟩), d, .pointer (some e)] w R)) (hr : ∀ e w', R e w' → ∃ v, e = .returned v) :
    Calls Tryz.prog 61 #[.pointer (some ⟨b, 0, none⟩), d, .pointer (some e)] w R := by
  go_enter Tryz.func61, Tryz.ntmps61
  go_wp2_with fail
  refine hR.out.mono ?_
  intro e' w' h
  obtain ⟨v, rfl⟩ := hr _ _ h
  have HR := Lib.hid h
  clear h
  go_wp2_with fail
  exact HR.out
#print axioms run_84

set_option maxHeartbeats 4000000 in
set_option maxRecDepth 1000000 in
theorem run_85 {w : World} {b : Nat} {d : Value} {e : Addr} {R : Ending → World → Prop} (h0 : w.cell? ⟨b, 0, none⟩ = some (.int .u8 85)) (hR : Hid (Calls Tryz.prog 79 #[.pointer (some ⟨b, 0, none⟩), d, .pointer (some e)] w R)) (hr : ∀ e w', R e w' → ∃ v, e = .returned v) :
    Calls Tryz.prog 61 #[.pointer (some ⟨b, 0, none⟩), d, .pointer (some e)] w R := by
  go_enter Tryz.func61, Tryz.ntmps61
  go_wp2_with fail
  refine hR.out.mono ?_
  intro e' w' h
  obtain ⟨v, rfl⟩ := hr _ _ h
  have HR := Lib.hid h
  clear h
  go_wp2_with fail
  exact HR.out
#print axioms run_85

set_option maxHeartbeats 4000000 in
set_option maxRecDepth 1000000 in
theorem run_86 {w : World} {b : Nat} {d : Value} {e : Addr} {R : Ending → World → Prop} (h0 : w.cell? ⟨b, 0, none⟩ = some (.int .u8 86)) (hR : Hid (Calls Tryz.prog 79 #[.pointer (some ⟨b, 0, none⟩), d, .pointer (some e)] w R)) (hr : ∀ e w', R e w' → ∃ v, e = .returned v) :
    Calls Tryz.prog 61 #[.pointer (some ⟨b, 0, none⟩), d, .pointer (some e)] w R := by
  go_enter Tryz.func61, Tryz.ntmps61
  go_wp2_with fail
  refine hR.out.mono ?_
  intro e' w' h
  obtain ⟨v, rfl⟩ := hr _ _ h
  have HR := Lib.hid h
  clear h
  go_wp2_with fail
  exact HR.out
#print axioms run_86

set_option maxHeartbeats 4000000 in
set_option maxRecDepth 1000000 in
theorem run_87 {w : World} {b : Nat} {d : Value} {e : Addr} {R : Ending → World → Prop} (h0 : w.cell? ⟨b, 0, none⟩ = some (.int .u8 87)) (hR : Hid (Calls Tryz.prog 79 #[.pointer (some ⟨b, 0, none⟩), d, .pointer (some e)] w R)) (hr : ∀ e w', R e w' → ∃ v, e = .returned v) :
    Calls Tryz.prog 61 #[.pointer (some ⟨b, 0, none⟩), d, .pointer (some e)] w R := by
  go_enter Tryz.func61, Tryz.ntmps61
  go_wp2_with fail
  refine hR.out.mono ?_
  intro e' w' h
  obtain ⟨v, rfl⟩ := hr _ _ h
  have HR := Lib.hid h
  clear h
  go_wp2_with fail
  exact HR.out
#print axioms run_87

set_option maxHeartbeats 4000000 in
set_option maxRecDepth 1000000 in
theorem run_88 {w : World} {b : Nat} {d : Value} {e : Addr} {R : Ending → World → Prop} (h0 : w.cell? ⟨b, 0, none⟩ = some (.int .u8 88)) (hR : Hid (Calls Tryz.prog 79 #[.pointer (some ⟨b, 0, none⟩), d, .pointer (some e)] w R)) (hr : ∀ e w', R e w' → ∃ v, e = .returned v) :
    Calls Tryz.prog 61 #[.pointer (some ⟨b, 0, none⟩), d, .pointer (some e)] w R := by
  go_enter Tryz.func61, Tryz.ntmps61
  go_wp2_with fail
  refine hR.out.mono ?_
  intro e' w' h
  obtain ⟨v, rfl⟩ := hr _ _ h
  have HR := Lib.hid h
  clear h
  go_wp2_with fail
  exact HR.out
#print axioms run_88

set_option maxHeartbeats 4000000 in
set_option maxRecDepth 1000000 in
theorem run_89 {w : World} {b : Nat} {d : Value} {e : Addr} {R : Ending → World → Prop} (h0 : w.cell? ⟨b, 0, none⟩ = some (.int .u8 89)) (hR : Hid (Calls Tryz.prog 79 #[.pointer (some ⟨b, 0, none⟩), d, .pointer (some e)] w R)) (hr : ∀ e w', R e w' → ∃ v, e = .returned v) :
    Calls Tryz.prog 61 #[.pointer (some ⟨b, 0, none⟩), d, .pointer (some e)] w R := by
  go_enter Tryz.func61, Tryz.ntmps61
  go_wp2_with fail
  refine hR.out.mono ?_
  intro e' w' h
  obtain ⟨v, rfl⟩ := hr _ _ h
  have HR := Lib.hid h
  clear h
  go_wp2_with fail
  exact HR.out
#print axioms run_89

set_option maxHeartbeats 4000000 in
set_option maxRecDepth 1000000 in
theorem run_90 {w : World} {b : Nat} {d : Value} {e : Addr} {R : Ending → World → Prop} (h0 : w.cell? ⟨b, 0, none⟩ = some (.int .u8 90)) (hR : Hid (Calls Tryz.prog 79 #[.pointer (some ⟨b, 0, none⟩), d, .pointer (some e)] w R)) (hr : ∀ e w', R e w' → ∃ v, e = .returned v) :
    Calls Tryz.prog 61 #[.pointer (some ⟨b, 0, none⟩), d, .pointer (some e)] w R := by
  go_enter Tryz.func61, Tryz.ntmps61
  go_wp2_with fail
  refine hR.out.mono ?_
  intro e' w' h
  obtain ⟨v, rfl⟩ := hr _ _ h
  have HR := Lib.hid h
  clear h
  go_wp2_with fail
  exact HR.out
#print axioms run_90

set_option maxHeartbeats 4000000 in
set_option maxRecDepth 1000000 in
theorem run_91 {w : World} {b : Nat} {d : Value} {e : Addr} {R : Ending → World → Prop} (h0 : w.cell? ⟨b, 0, none⟩ = some (.int .u8 91)) (hR : Hid (Calls Tryz.prog 79 #[.pointer (some ⟨b, 0, none⟩), d, .pointer (some e)] w R)) (hr : ∀ e w', R e w' → ∃ v, e = .returned v) :
    Calls Tryz.prog 61 #[.pointer (some ⟨b, 0, none⟩), d, .pointer (some e)] w R := by
  go_enter Tryz.func61, Tryz.ntmps61
  go_wp2_with fail
  refine hR.out.mono ?_
  intro e' w' h
  obtain ⟨v, rfl⟩ := hr _ _ h
  have HR := Lib.hid h
  clear h
  go_wp2_with fail
  exact HR.out
#print axioms run_91

set_option maxHeartbeats 4000000 in
set_option maxRecDepth 1000000 in
theorem run_92 {w : World} {b : Nat} {d : Value} {e : Addr} {R : Ending → World → Prop} (h0 : w.cell? ⟨b, 0, none⟩ = some (.int .u8 92)) (hR : Hid (Calls Tryz.prog 79 #[.pointer (some ⟨b, 0, none⟩), d, .pointer (some e)] w R)) (hr : ∀ e w', R e w' → ∃ v, e = .returned v) :
    Calls Tryz.prog 61 #[.pointer (some ⟨b, 0, none⟩), d, .pointer (some e)] w R := by
  go_enter Tryz.func61, Tryz.ntmps61
  go_wp2_with fail
  refine hR.out.mono ?_
  intro e' w' h
  obtain ⟨v, rfl⟩ := hr _ _ h
  have HR := Lib.hid h
  clear h
  go_wp2_with fail
  exact HR.out
#print axioms run_92

set_option maxHeartbeats 4000000 in
set_option maxRecDepth 1000000 in
theorem run_93 {w : World} {b : Nat} {d : Value} {e : Addr} {R : Ending → World → Prop} (h0 : w.cell? ⟨b, 0, none⟩ = some (.int .u8 93)) (hR : Hid (Calls Tryz.prog 79 #[.pointer (some ⟨b, 0, none⟩), d, .pointer (some e)] w R)) (hr : ∀ e w', R e w' → ∃ v, e = .returned v) :
    Calls Tryz.prog 61 #[.pointer (some ⟨b, 0, none⟩), d, .pointer (some e)] w R := by
  go_enter Tryz.func61, Tryz.ntmps61
  go_wp2_with fail
  refine hR.out.mono ?_
  intro e' w' h
  obtain ⟨v, rfl⟩ := hr _ _ h
  have HR := Lib.hid h
  clear h
  go_wp2_with fail
  exact HR.out
#print axioms run_93

set_option maxHeartbeats 4000000 in
set_option maxRecDepth 1000000 in
theorem run_94 {w : World} {b : Nat} {d : Value} {e : Addr} {R : Ending → World → Prop} (h0 : w.cell? ⟨b, 0, none⟩ = some (.int .u8 94)) (hR : Hid (Calls Tryz.prog 79 #[.pointer (some ⟨b, 0, none⟩), d, .pointer (some e)] w R)) (hr : ∀ e w', R e w' → ∃ v, e = .returned v) :
    Calls Tryz.prog 61 #[.pointer (some ⟨b, 0, none⟩), d, .pointer (some e)] w R := by
  go_enter Tryz.func61, Tryz.ntmps61
  go_wp2_with fail
  refine hR.out.mono ?_
  intro e' w' h
  obtain ⟨v, rfl⟩ := hr _ _ h
  have HR := Lib.hid h
  clear h
  go_wp2_with fail
  exact HR.out
#print axioms run_94

set_option maxHeartbeats 4000000 in
set_option maxRecDepth 1000000 in
theorem run_95 {w : World} {b : Nat} {d : Value} {e : Addr} {R : Ending → World → Prop} (h0 : w.cell? ⟨b, 0, none⟩ = some (.int .u8 95)) (hR : Hid (Calls Tryz.prog 79 #[.pointer (some ⟨b, 0, none⟩), d, .pointer (some e)] w R)) (hr : ∀ e w', R e w' → ∃ v, e = .returned v) :
    Calls Tryz.prog 61 #[.pointer (some ⟨b, 0, none⟩), d, .pointer (some e)] w R := by
  go_enter Tryz.func61, Tryz.ntmps61
  go_wp2_with fail
  refine hR.out.mono ?_
  intro e' w' h
  obtain ⟨v, rfl⟩ := hr _ _ h
  have HR := Lib.hid h
  clear h
  go_wp2_with fail
  exact HR.out
#print axioms run_95

set_option maxHeartbeats 4000000 in
set_option maxRecDepth 1000000 in
theorem run_96 {w : World} {b : Nat} {d : Value} {e : Addr} {R : Ending → World → Prop} (h0 : w.cell? ⟨b, 0, none⟩ = some (.int .u8 96)) (hR : Hid (Calls Tryz.prog 79 #[.pointer (some ⟨b, 0, none⟩), d, .pointer (some e)] w R)) (hr : ∀ e w', R e w' → ∃ v, e = .returned v) :
    Calls Tryz.prog 61 #[.pointer (some ⟨b, 0, none⟩), d, .pointer (some e)] w R := by
  go_enter Tryz.func61, Tryz.ntmps61
  go_wp2_with fail
  refine hR.out.mono ?_
  intro e' w' h
  obtain ⟨v, rfl⟩ := hr _ _ h
  have HR := Lib.hid h
  clear h
  go_wp2_with fail
  exact HR.out
#print axioms run_96

end Go.Proofs.YtbnjggklinickaaGreatDoorR
