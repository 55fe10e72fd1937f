import Derived.Test.YtbnjggklinickaaGreatDoorRStack
namespace Go.Proofs.YtbnjggklinickaaGreatDoorR
open Go Go.RowKit

set_option maxHeartbeats 400000 in
set_option maxRecDepth 100000 in
theorem bytes_small (n : Int) (h1 : 1 ≤ n) (h2 : n ≤ 127) (ha : bits .and .i64 n 255 = n) (hb : bits .and .u8 n 128 = 0) (w : World) :
    Calls Tryz.prog 193 #[.int .i64 n] w (Copy [n] w) := by
  have h0 : (n == 0) = false := by simp; omega
  have hsh : n / 256 = 0 := by omega
  have hmk : ∀ w : World, (Instr.makeSlice 24 (.int .i64 0) (.int .i64 9)).run Tryz.prog w = .ok (.slice (some ⟨w.heap.size, 0, none⟩) 0 9) (w.alloc (.cells #[.int .u8 0, .int .u8 0, .int .u8 0, .int .u8 0, .int .u8 0, .int .u8 0, .int .u8 0, .int .u8 0, .int .u8 0] 5)) := fun w => by kernel_rfl
  go_enter Tryz.func193, Tryz.ntmps193
  go_wp2_with fail
  refine wp_loop_rounds 2 ?_
  rw [rounds_succ]
  go_wp2_with fail
  rw [rounds_succ]
  go_wp2_with fail
  go_ret
  refine ⟨_, rfl, ((Below.refl _ _).alloc (Nat.le_refl _) _).alloc (by simp) _, ⟨_, 9, rfl, by simp, by simp [maxLen], by simp, by simp; omega, fun _ => ⟨w.heap.size, 0, rfl, ⟨Nat.le_refl _, by simp; omega⟩, ?_⟩⟩⟩
  intro i hi
  obtain rfl : i = 0 := by simp at hi; exact hi
  rw [World.cell?_alloc_past _ _ _ (by simp), World.cell?_alloc_at _ _ _ _ rfl]
  rfl
#print axioms bytes_small

/-- A number from 1 to 16 on a stack. -/
theorem one_to_sixteen (n : Nat) (h1 : 1 ≤ n) (h2 : n ≤ 16) : bits .and .i64 (n : Int) 255 = n ∧ bits .and .u8 (n : Int) 128 = 0 := by
  have hh : ∀ k : Fin 17, bits .and .i64 ((k.val : Nat) : Int) 255 = (k.val : Nat) ∧ bits .and .u8 ((k.val : Nat) : Int) 128 = 0 := by decide +kernel
  exact hh ⟨n, by omega⟩

set_option maxHeartbeats 400000 in
set_option maxRecDepth 100000 in
theorem pushInt_small {M : Nat → Prop} {b o : Nat} {T : TypeId} {c : Array Value} {w : World} {dv : Value} {D : List Value} (h : StkIn M b o T c w dv D) (hD : D.length ≤ 1000000) (n : Nat) (h1 : 1 ≤ n) (h2 : n ≤ 16) (i : Int) (hi : i = n) :
    Calls Tryz.prog 154 #[.pointer (some ⟨b, o, none⟩), .int .i64 i] w fun e w' => e = .returned (.tuple #[]) ∧
      ∃ v w1, Below w.heap.size w w1 ∧ Elem (NewIn w w1) w1 v [(n : Int)] ∧ StkPost (fun k => M k ∨ NewIn w w1 k) b o T c w1 w' (D ++ [v]) := by
  subst hi
  have H := Lib.hid h
  have h3 := one_to_sixteen n h1 h2
  have h4 : (1 : Int) ≤ n := by omega
  have h5 : (n : Int) ≤ 127 := by omega
  have hB := bytes_small n h4 h5 h3.1 h3.2 w
  have HBy := Lib.hid hB
  clear h h3 hB
  go_enter Tryz.func154, Tryz.ntmps154
  go_wp2_with fail
  refine HBy.out.mono ?_
  rintro e w1 ⟨v, rfl, hb, he⟩
  have HE := Lib.hid he
  have hK : Kept M w w1 := (kept_of_below hb).mono H.out.lt
  have hI : StkIn (fun k => M k ∨ NewIn w w1 k) b o T c w1 dv D := by
    have hbl := lt_of_block H.out.blk
    refine ⟨?_, (hb.block b hbl).trans H.out.blk, H.out.cell, H.out.row.of_block (fun g hg => hb.block g (H.out.row.lt g hg)), H.out.nb, ?_, ?_⟩
    · rintro k (hk | hk)
      · exact Nat.lt_of_lt_of_le (H.out.lt k hk) hb.size
      · exact hk.2
    · rintro k hk (hk' | hk')
      · exact H.out.nM k hk hk'
      · have := H.out.row.lt k hk; unfold NewIn at hk'; omega
    · rintro (hk' | hk')
      · exact H.out.nMb hk'
      · unfold NewIn at hk'; omega
  obtain ⟨p, cc, rfl, _⟩ := he
  have HI := Lib.hid hI
  have HB := Lib.hid hb
  clear hK hI hb
  go_wp2_with fail
  refine (push_any HI.out _ _ _ hD).mono ?_
  rintro e w' ⟨rfl, hq⟩
  have HQ := Lib.hid hq
  clear hq
  go_wp2_with fail
  go_end0
  exact ⟨rfl, _, _, HB.out, HE.out, HQ.out⟩
#print axioms pushInt_small
end Go.Proofs.YtbnjggklinickaaGreatDoorR
