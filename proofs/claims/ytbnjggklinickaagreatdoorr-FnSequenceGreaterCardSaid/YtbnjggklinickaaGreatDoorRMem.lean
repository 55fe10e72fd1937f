import Derived.Test.YtbnjggklinickaaGreatDoorRChecked
import Derived.Test.YtbnjggklinickaaGreatDoorRBase
namespace Go.Proofs.YtbnjggklinickaaGreatDoorR
open Go Go.RowKit
theorem info_u8 : (Tryz.prog.info? 5).map (fun i => (i.zero, i.size, i.bytes)) = some (some (.int .u8 0), 1, 1) := by kernel_rfl
theorem info_sl : (Tryz.prog.info? 24).map (fun i => (i.zero, i.size, i.bytes)) = some (some (.slice none 0 0), 1, 24) := by kernel_rfl

/-- Where a call only makes memory: what it leaves. -/
def Copy (bs : List Int) (w : World) (e : Ending) (w' : World) : Prop := ∃ v, e = .returned v ∧ Below w.heap.size w w' ∧ Elem (NewIn w w') w' v bs

set_option maxHeartbeats 400000 in
theorem copied_any {M : Nat → Prop} {x : Value} {bs : List Int} {w : World} (hx : Elem M w x bs) (hM : ∀ k, M k → k < w.heap.size) (hlen : bs.length ≤ 140737488355328) :
    Calls Tryz.prog 15 #[x] w (Copy bs w) := by
  obtain ⟨i0, hi, hz0, hz1, hz2⟩ := info_parts info_u8
  have hb := hx
  obtain ⟨_, _, _, _, _, _, hb5, _⟩ := hb
  have hx1 : Elem M (w.alloc (.cells #[] 5)) x bs := hx.kept ((Kept.refl M w).alloc hM _)
  have hx2 := Lib.hid hx1
  have hx3 := Lib.hid hx
  clear hx1 hx
  go_enter Tryz.func15, Tryz.ntmps15
  go_wp2_with (at_builtin; refine wpList_append_bytes rfl _ _ 24 rfl w.heap.size 5 i0 Tryz.underlying24 hi hz0 hz1 hz2 _ [] rfl (World.ownsRow_made _ _ _ (Nat.le_refl _) (Nat.zero_le _) rfl) _ bs rfl hx2.out (by simpa using hlen) (by simp) ?_)
  intro v' w' ho hg
  go_wp2_with fail
  go_ret
  refine ⟨_, rfl, ?_, ?_⟩
  · exact ((Below.refl _ _).alloc (Nat.le_refl _) _).grown hg (by simp) (fun k hk => by simp [Value.ownBlock] at hk; omega)
  · exact Elem.of_owns (by simpa using ho) hb5
#print axioms copied_any
end Go.Proofs.YtbnjggklinickaaGreatDoorR
