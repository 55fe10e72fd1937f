import Derived.Test.YtbnjggklinickaaGreatDoorREng
namespace Go.Proofs.YtbnjggklinickaaGreatDoorR
open Go Go.RowKit

def badOps : List Int := [126, 127, 128, 129, 131, 132, 133, 134, 141, 142, 149, 150, 151, 152, 153]

theorem dis_any (v : Int) (w : World) (h : v ∉ badOps) : Calls Tryz.prog 56 #[.int .u8 v] w fun e w' => e = .returned (.bool false) ∧ w = w' := by
  simp only [badOps, List.mem_cons, List.not_mem_nil, or_false, not_or] at h
  obtain ⟨h1, h2, h3, h4, h5, h6, h7, h8, h9, h10, h11, h12, h13, h14, h15⟩ := h
  go_enter Tryz.func56, Tryz.ntmps56
  go_wp2
  go_ret
  exact ⟨rfl, rfl⟩
#print axioms dis_any

theorem ill_any (v : Int) (w : World) (h1 : v ≠ 101) (h2 : v ≠ 102) : Calls Tryz.prog 57 #[.int .u8 v] w fun e w' => e = .returned (.bool false) ∧ w = w' := by
  go_enter Tryz.func57, Tryz.ntmps57
  go_wp2
  go_ret
  exact ⟨rfl, rfl⟩
#print axioms ill_any

set_option maxHeartbeats 1000000 in
set_option maxRecDepth 100000 in
theorem exec_lo {K : EngK} {V : EngV} {E : List (List Int)} {w : World} (h : Eng K V E w) {p : Nat} {v : Int} (hv : w.cell? ⟨p, 0, none⟩ = some (.int .u8 v)) (h0 : 0 ≤ v) (h96 : v ≤ 96) {dp : Option Addr} {n k : Nat} (hn : n ≤ 520)
    {R : Ending → World → Prop} (hR : Calls Tryz.prog 61 #[.pointer (some ⟨p, 0, none⟩), .slice dp n k, .pointer (some ⟨K.e, 0, none⟩)] w R) (hr : ∀ e w', R e w' → ∃ v, e = .returned v) :
    Calls Tryz.prog 34 #[.pointer (some ⟨K.e, 0, none⟩), .pointer (some ⟨p, 0, none⟩), .slice dp n k] w R := by
  have c32 : w.cell? ⟨K.e, 32, none⟩ = some (.pointer none) := h.cell 32
  have c27 : w.cell? ⟨K.e, 27, none⟩ = some (.slice none 0 0) := h.cell 27
  have c24 : w.cell? ⟨K.e, 24, none⟩ = some (.bool false) := h.cell 24
  have hbad : v ∉ badOps := by simp only [badOps, List.mem_cons, List.not_mem_nil, or_false, not_or]; omega
  have hgt : decide ((v : Int) > 96) = false := by simp; omega
  have hgt' : decide ((96 : Int) < v) = false := by simp; omega
  have hcs : (v == 171) = false := by simp; omega
  have H := Lib.hid h
  have HR := Lib.hid hR
  clear h hR
  go_enter Tryz.func34, Tryz.ntmps34
  go_wp2_with first
    | (go_at_call 56; refine (dis_any _ _ hbad).mono ?_; rintro e w' ⟨rfl, rfl⟩)
    | (go_at_call 57; refine (ill_any _ _ (by omega) (by omega)).mono ?_; rintro e w' ⟨rfl, rfl⟩)
    | (go_at_call 58; refine (branch_any c27).mono ?_; rintro e w' ⟨rfl, rfl⟩)
  refine HR.out.mono ?_
  intro e' w' h
  obtain ⟨v, rfl⟩ := hr _ _ h
  have HR := Lib.hid h
  clear h
  go_wp2_with fail
  exact HR.out
#print axioms exec_lo
set_option maxHeartbeats 1000000 in
set_option maxRecDepth 100000 in
theorem exec_hi {K : EngK} {V : EngV} {E : List (List Int)} {w : World} (h : Eng K V E w) {p : Nat} {v : Int} (hv : w.cell? ⟨p, 0, none⟩ = some (.int .u8 v)) (h0 : 96 < v) (hbad : v ∉ badOps) (hill : v ≠ 101 ∧ v ≠ 102 ∧ v ≠ 171) (hops : 0 ≤ V.nops ∧ V.nops ≤ 200) {dp : Option Addr} {n k : Nat} (hp : p ≠ K.e)
    {R : Ending → World → Prop} (hR : Calls Tryz.prog 61 #[.pointer (some ⟨p, 0, none⟩), .slice dp n k, .pointer (some ⟨K.e, 0, none⟩)] (w.setCell ⟨K.e, 28, none⟩ (.int .i64 (V.nops + 1))) R) (hr : ∀ e w', R e w' → ∃ v, e = .returned v) :
    Calls Tryz.prog 34 #[.pointer (some ⟨K.e, 0, none⟩), .pointer (some ⟨p, 0, none⟩), .slice dp n k] w R := by
  have c32 : w.cell? ⟨K.e, 32, none⟩ = some (.pointer none) := h.cell 32
  have c27 : w.cell? ⟨K.e, 27, none⟩ = some (.slice none 0 0) := h.cell 27
  have c24 : w.cell? ⟨K.e, 24, none⟩ = some (.bool false) := h.cell 24
  obtain ⟨hi1, hi2, hi3⟩ := hill
  obtain ⟨ho1, ho2⟩ := hops
  have c28 : w.cell? ⟨K.e, 28, none⟩ = some (.int .i64 V.nops) := h.cell 28
  have hf : ∀ i, w.frozen? ⟨K.e, i, none⟩ = false := fun i => free_at h.blk i
  have c27' : (w.setCell ⟨K.e, 28, none⟩ (.int .i64 (V.nops + 1))).cell? ⟨K.e, 27, none⟩ = some (.slice none 0 0) := by rw [World.cell?_setCell_other _ _ _ _ (by simp)]; exact c27
  have hcs : (v == 171) = false := by simpa using hi3
  have H := Lib.hid h
  have HR := Lib.hid hR
  clear h hR
  go_enter Tryz.func34, Tryz.ntmps34
  go_wp2_with first
    | (go_at_call 56; refine (dis_any _ _ hbad).mono ?_; rintro e w' ⟨rfl, rfl⟩)
    | (go_at_call 57; refine (ill_any _ _ hi1 hi2).mono ?_; rintro e w' ⟨rfl, rfl⟩)
    | (go_at_call 58; refine (branch_any c27').mono ?_; rintro e w' ⟨rfl, rfl⟩) --.mono ?_; rintro e w' ⟨rfl, rfl⟩)
  refine HR.out.mono ?_
  intro e' w' h
  obtain ⟨v, rfl⟩ := hr _ _ h
  have HR := Lib.hid h
  clear h
  go_wp2_with fail
  exact HR.out
#print axioms exec_hi
end Go.Proofs.YtbnjggklinickaaGreatDoorR
