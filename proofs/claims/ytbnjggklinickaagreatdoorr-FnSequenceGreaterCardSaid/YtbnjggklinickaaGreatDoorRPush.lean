import Derived.Test.YtbnjggklinickaaGreatDoorRMem
namespace Go.Proofs.YtbnjggklinickaaGreatDoorR
open Go Go.RowKit

set_option maxHeartbeats 400000 in
set_option maxRecDepth 100000 in
theorem push_any {M : Nat → Prop} {b o : Nat} {T : TypeId} {c : Array Value} {w : World} {dv : Value} {D : List Value} (h : StkIn M b o T c w dv D) (p : Option Addr) (n cc : Nat) (hD : D.length ≤ 1000000) :
    Calls Tryz.prog 145 #[.pointer (some ⟨b, o, none⟩), .slice p n cc] w fun e w' => e = .returned (.tuple #[]) ∧ StkPost M b o T c w w' (D ++ [.slice p n cc]) := by
  obtain ⟨i0, hi, hz0, hz1, hz2⟩ := info_parts info_sl
  have hc : w.cell? ⟨b, o, none⟩ = some dv := by rw [cell_at h.blk, h.cell]
  have H := Lib.hid h
  have hR := Lib.hid (h.row.alloc (.cells #[.slice p n cc] 24))
  clear h
  go_enter Tryz.func145, Tryz.ntmps145
  go_wp2_with (at_builtin; refine wpList_append_row rfl _ _ 38 rfl i0 Tryz.underlying38 hi hz0 hz1 hz2 _ D rfl hR.out ⟨w.heap.size, 0, none⟩ 1 1 [.slice p n cc] rfl rfl ?c1 ?c2 ?c3 ?_)
  case c1 =>
    intro j u hj
    match j, hj with
    | 0, hj => simp at hj; subst hj; simp [Addr.add]
  case c2 => intro u hu; simp at hu; subst hu; rfl
  case c3 => omega
  intro v' w1 hown hwhere hg
  have hb := H.out.blk
  have hb1 : w1.heap[b]? = some (.cells c T (0, 0)) := by
    rw [hg.block b (by have := lt_of_block hb; simp; omega) (fun e => H.out.nb e.symm)]
    exact block_alloc hb _
  have hc1 : w1.cell? ⟨b, o, none⟩ = some dv := by rw [cell_at hb1, H.out.cell]
  have hf1 : w1.frozen? ⟨b, o, none⟩ = false := free_at hb1 o
  have hform : ∃ q m k, v' = .slice q m k := by
    rcases hown.form with ⟨rfl, _⟩ | ⟨g, cap, cur, rfl, _⟩
    · exact ⟨_, _, _, rfl⟩
    · exact ⟨_, _, _, rfl⟩
  obtain ⟨q, m, k, rfl⟩ := hform
  have hnb : (Value.slice q m k).ownBlock ≠ some b := by
    rcases hwhere with e | ⟨k', e, hk⟩
    · rw [e]; exact H.out.nb
    · rw [e]; have := lt_of_block hb; intro e'; cases e'; omega
  have hnM : ∀ g, (Value.slice q m k).ownBlock = some g → ¬ M g := by
    intro g hg' hMg
    rcases hwhere with e | ⟨k', e, hk⟩
    · exact H.out.nM g (e ▸ hg') hMg
    · rw [e] at hg'; cases hg'; have := H.out.lt _ hMg; omega
  have HB := Lib.hid (show StkPost M b o T c w (w1.setCell ⟨b, o, none⟩ (.slice q m k)) (D ++ [.slice p n cc]) from
    ⟨_, block_setCell hb1 _ _, hown.setCell hnb _, hnb, hnM,
      (((Kept.refl M w).alloc H.out.lt _).grown hg (fun k hk => by have := H.out.lt k hk; simp; omega) H.out.nM).setCell H.out.nMb _⟩)
  clear hb hb1 hown hc hwhere hnb hnM hg
  go_wp2_with fail
  go_end0
  exact ⟨rfl, HB.out⟩
#print axioms push_any
end Go.Proofs.YtbnjggklinickaaGreatDoorR
