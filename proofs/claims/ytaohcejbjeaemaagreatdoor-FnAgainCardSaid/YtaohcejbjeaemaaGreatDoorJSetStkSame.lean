import Derived.Test.YtaohcejbjeaemaaGreatDoorJStkM
import Derived.Test.YtaohcejbjeaemaaGreatDoorJBaseMem
import Derived.LoopTactic
import Derived.LoopN
import Derived.Deep.QuietTactic
import Derived.BigQuiet
namespace Go.Proofs.YtaohcejbjeaemaaGreatDoor
open Go Go.RowKit

theorem set_same {c : Array Value} {o : Nat} {v : Value} (h : c[o]? = some v) : c.setIfInBounds o v = c := by
  apply Array.ext_getElem?
  intro i
  rw [Array.getElem?_setIfInBounds]
  split
  · rename_i e; subst e; rw [h]; simp [(Array.getElem?_eq_some_iff.1 h).1]
  · rfl

set_option maxHeartbeats 2000000 in
set_option maxRecDepth 100000 in
theorem setStack_any {M : Nat → Prop} {b o : Nat} {T : TypeId} {c : Array Value} {w : World} {p : Option Addr} {q : Nat} {g o' k : Nat} {Ds : List Value} (h : StkIn M b o T c w (.slice p 0 q) []) (hg : M g) (hd : ∀ i x, Ds[i]? = some x → ∃ a m k, x = .slice a m k ∧ w.cell? ⟨g, o' + i, none⟩ = some x) (hl : Ds.length ≤ 100000) :
    Calls Tryz.prog 25 #[.pointer (some ⟨b, o, none⟩), .slice (some ⟨g, o', none⟩) Ds.length k] w fun e w' => e = .returned (.tuple #[]) ∧ StkPost M b o T c w w' Ds := by
  have hc0 : w.cell? ⟨b, o, none⟩ = some (.slice p 0 q) := by rw [cell_at h.blk, h.cell]
  have H := Lib.hid h
  have HD := Lib.hid hd
  clear h hd
  obtain ⟨n, hn⟩ : ∃ n, n = Ds.length := ⟨_, rfl⟩
  rw [← hn]
  have HN := Lib.hid hn
  have hn' : n ≤ 100000 := by rw [hn]; exact hl
  clear hn hl
  go_enter Tryz.func25, Tryz.ntmps25
  go_wp2_with (go_at_call 40; refine (depth_any hc0 (by decide)).mono ?_; rintro e w' ⟨rfl, rfl⟩)
  refine drop_zero.mono ?_
  rintro e w0 ⟨s, rfl, hB⟩
  have hK0 : Kept M w w0 := (kept_of_below hB).mono H.out.lt
  have hI0 : StkIn M b o T (c.setIfInBounds o (.slice p 0 q)) w0 (.slice p 0 q) [] := by
    rw [set_same H.out.cell]
    exact ⟨fun k hk => Nat.lt_of_lt_of_le (H.out.lt k hk) hB.size, (hB.block b (lt_of_block H.out.blk)).trans H.out.blk, H.out.cell, H.out.row.of_block (fun g hg => hB.block g (H.out.row.lt g hg)), H.out.nb, H.out.nM, H.out.nMb⟩
  have HI0 := Lib.hid hI0
  have HK0 := Lib.hid hK0
  clear hI0 hK0 hB hc0
  go_wp2
  go_loopw [11] (fun i wr => ∃ j : Nat, j ≤ n ∧ i = .int .i64 j ∧ Hid (∃ dv, StkIn M b o T (c.setIfInBounds o dv) wr dv (Ds.take j) ∧ Kept M w wr)) (fun i _ => n - (intOf i).toNat)
  case atStart => exact ⟨0, Nat.zero_le _, rfl, Lib.hid ⟨_, by simpa using HI0.out, HK0.out⟩⟩
  case round =>
    obtain ⟨j, hj, rfl, hC⟩ := hrel
    by_cases hlt : j < n
    · obtain ⟨x, hx⟩ : ∃ x, Ds[j]? = some x := ⟨_, List.getElem?_eq_getElem (by rw [← HN.out]; exact hlt)⟩
      obtain ⟨a, m, k1, rfl, c1⟩ := HD.out j x hx
      obtain ⟨dv, hI, hK⟩ := hC.out
      have d1 : wr.cell? ⟨g, o' + j, none⟩ = some (.slice a m k1) := (hK.cell (p := ⟨g, o' + j, none⟩) hg).trans c1
      have HI := Lib.hid hI
      have HK := Lib.hid hK
      have HXX := Lib.hid hx
      clear hI hK hC c1 hx
      go_wp2_with fail
      refine (push_any HI.out a m k1 (by rw [List.length_take]; omega)).mono ?_
      rintro e w2 ⟨rfl, hp⟩
      obtain ⟨dv2, hI2, hK2⟩ := HI.out.next HK.out hp
      have HF := Lib.hid (show ∃ dv, StkIn M b o T (c.setIfInBounds o dv) w2 dv (Ds.take (j + 1)) ∧ Kept M w w2 from ⟨dv2, hI2.cast (by rw [List.take_add_one, HXX.out]; rfl), hK2⟩)
      clear hp hI2 hK2
      go_wp2
      go_roundw
      case rel => exact ⟨j + 1, by omega, by go_num, HF⟩
      case measure => simp [intOf]; omega
    · obtain rfl : j = n := by omega
      go_wp2
      go_end0
      obtain ⟨dv, hI, hK⟩ := hC.out
      exact ⟨rfl, (hI.done hK).cast (by rw [HN.out, List.take_length])⟩
end Go.Proofs.YtaohcejbjeaemaaGreatDoor
namespace Go.Proofs.YtaohcejbjeaemaaGreatDoor
open Go Go.RowKit

/-- A list of slices as it came in: each place holds a slice. -/
def Lists (w : World) (b o : Nat) (ls : List (Option Addr × Nat × Nat)) : Prop := ∀ i (x : Option Addr × Nat × Nat), ls[i]? = some x → w.cell? ⟨b, o + i, none⟩ = some (.slice x.1 x.2.1 x.2.2)

/-- What light answers: yes only if there are at most 300, each of at most 520 bytes. -/
def LightPost (ls : List (Option Addr × Nat × Nat)) (w : World) (e : Ending) (w' : World) : Prop := ∃ r, e = .returned (.bool r) ∧ (r = true → ls.length ≤ 300 ∧ ∀ x ∈ ls, x.2.1 ≤ 520) ∧ w = w'
theorem take_next {ls : List (Option Addr × Nat × Nat)} {j m : Nat} {x : Option Addr × Nat × Nat} (hx : ls[j]? = some x) (h : ∀ y ∈ ls.take j, y.2.1 ≤ m) (hm : x.2.1 ≤ m) : ∀ y ∈ ls.take (j + 1), y.2.1 ≤ m := by
  intro y hy
  rw [List.take_add_one, hx] at hy
  rcases List.mem_append.1 hy with h1 | h1
  · exact h y h1
  · simp at h1
    subst h1
    exact hm

set_option maxHeartbeats 1000000 in
set_option maxRecDepth 100000 in
theorem light_any {w : World} {b o k : Nat} {ls : List (Option Addr × Nat × Nat)} (h : Lists w b o ls) (hl : ls.length ≤ 2147483647) :
    Calls Tryz.prog 5 #[.slice (some ⟨b, o, none⟩) ls.length k] w (LightPost ls w) := by
  have H := Lib.hid h
  clear h
  obtain ⟨n, hn⟩ : ∃ n, n = ls.length := ⟨_, rfl⟩
  rw [← hn]
  have HN := Lib.hid hn
  have hn' : n ≤ 2147483647 := by rw [hn]; exact hl
  clear hn hl
  go_enter Tryz.func5, Tryz.ntmps5
  go_wp2
  go_loop [3] (fun i => ∃ j : Nat, j ≤ n ∧ i = .int .i64 j ∧ Hid (∀ x ∈ ls.take j, x.2.1 ≤ 520)) (fun i => n - (intOf i).toNat)
  case atStart => exact ⟨0, Nat.zero_le _, rfl, Lib.hid (by simp)⟩
  case round =>
    obtain ⟨j, hj, rfl, hall⟩ := hrel
    by_cases hlt : j < n
    · obtain ⟨x, hx⟩ : ∃ x, ls[j]? = some x := ⟨_, List.getElem?_eq_getElem (by rw [← HN.out]; exact hlt)⟩
      have hc : w.cell? ⟨b, o + j, none⟩ = some (.slice x.1 x.2.1 x.2.2) := H.out j x hx
      obtain ⟨xp, xm, xk⟩ := x
      simp only at hc
      have HX := Lib.hid hx
      clear hx
      by_cases h520 : xm ≤ 520
      · go_wp2
        go_round
        case rel => exact ⟨j + 1, by omega, by go_num, Lib.hid (take_next HX.out hall.out h520)⟩
        case measure => simp [intOf]; omega
      · go_wp2
        go_ret
        exact ⟨false, rfl, by simp, rfl⟩
    · obtain rfl : j = n := by omega
      go_wp2
      go_ret
      refine ⟨_, rfl, fun hr => ⟨by rw [← HN.out]; have := of_decide_eq_true hr; omega, ?_⟩, rfl⟩
      have := hall.out
      rw [HN.out, List.take_length] at this
      exact this

/-- What zzFits5 answers: yes or no; yes only if there are not too many. -/
def BoolPost (n : Nat) (w : World) (e : Ending) (w' : World) : Prop := ∃ r : Bool, e = .returned (.bool r) ∧ (r = true → n ≤ 2147483647) ∧ w = w'

set_option maxHeartbeats 1000000 in
set_option maxRecDepth 100000 in
theorem fits5_any {w : World} {b o k : Nat} {ls : List (Option Addr × Nat × Nat)} (h : Lists w b o ls) (hl : ls.length ≤ maxLen) :
    Calls Tryz.prog 4 #[.slice (some ⟨b, o, none⟩) ls.length k] w (BoolPost ls.length w) := by
  have H := Lib.hid h
  clear h
  unfold maxLen at hl
  obtain ⟨n, hn⟩ : ∃ n, n = ls.length := ⟨_, rfl⟩
  rw [← hn]
  have HN := Lib.hid hn
  have hn' : n ≤ 9223372036854775807 := by rw [hn]; exact hl
  clear hn hl
  by_cases hbig : n ≤ 2147483647
  · go_enter Tryz.func4, Tryz.ntmps4
    go_wp2
    go_loop [10] (fun i => ∃ j : Nat, j ≤ n ∧ i = .int .i64 j) (fun i => n - (intOf i).toNat)
    case atStart => exact ⟨0, Nat.zero_le _, rfl⟩
    case round =>
      obtain ⟨j, hj, rfl⟩ := hrel
      by_cases hlt : j < n
      · obtain ⟨x, hx⟩ : ∃ x, ls[j]? = some x := ⟨_, List.getElem?_eq_getElem (by rw [← HN.out]; exact hlt)⟩
        have hc : w.cell? ⟨b, o + j, none⟩ = some (.slice x.1 x.2.1 x.2.2) := H.out j x hx
        obtain ⟨xp, xm, xk⟩ := x
        simp only at hc
        clear hx
        by_cases h520 : xm ≤ 2147483647
        · go_wp2
          go_round
          case rel => exact ⟨j + 1, by omega, by go_num⟩
          case measure => simp [intOf]; omega
        · go_wp2
          go_ret
          exact ⟨_, rfl, fun _ => hbig, rfl⟩
      · obtain rfl : j = n := by omega
        go_wp2
        go_ret
        exact ⟨_, rfl, fun _ => hbig, rfl⟩
  · go_enter Tryz.func4, Tryz.ntmps4
    go_wp2
    go_ret
    exact ⟨false, rfl, by simp, rfl⟩

set_option maxHeartbeats 1000000 in
theorem fits5_few {w : World} {p : Option Addr} {k : Nat} : Calls Tryz.prog 4 #[.slice p 0 k] w fun e w' => e = .returned (.bool true) ∧ w = w' := by
  go_enter Tryz.func4, Tryz.ntmps4
  go_wp2
  refine wp_loop_once ?_
  go_wp2
  go_ret
  exact ⟨rfl, rfl⟩
end Go.Proofs.YtaohcejbjeaemaaGreatDoor
namespace Go.Proofs.YtaohcejbjeaemaaGreatDoor
open Go Go.RowKit

set_option maxHeartbeats 1000000 in
set_option maxRecDepth 100000 in
theorem same_yes {M M' : Nat → Prop} {w : World} {x y : Value} {bs : List Int} (hx : Elem M w x bs) (hy : Elem M' w y bs) (hl : bs.length ≤ 1000000) :
    Calls Tryz.prog 20 #[x, y] w fun e w' => e = .returned (.bool true) ∧ Kept (fun _ => True) w w' := by
  obtain ⟨p, c, rfl, _, _, _, _, h5⟩ := hx
  obtain ⟨q, d, rfl, _, _, _, _, k5⟩ := hy
  by_cases h0 : bs.length = 0
  · rw [h0]
    clear h5 k5
    go_enter Tryz.func20, Tryz.ntmps20
    go_wp2
    refine wp_loop_once ?_
    go_wp2
    go_ret
    exact ⟨rfl, Kept.refl _ _⟩
  · obtain ⟨b, o, rfl, _, hc⟩ := h5 (by omega)
    obtain ⟨b', o', rfl, _, kc⟩ := k5 (by omega)
    have HC := Lib.hid hc
    have KC := Lib.hid kc
    clear hc kc h5 k5
    obtain ⟨n, hn⟩ : ∃ n, n = bs.length := ⟨_, rfl⟩
    rw [← hn]
    have HN := Lib.hid hn
    have hn' : n ≤ 1000000 := by rw [hn]; exact hl
    clear hn hl h0
    go_enter Tryz.func20, Tryz.ntmps20
    go_wp2
    go_loopw [5] (fun i wr => ∃ j : Nat, j ≤ n ∧ i = .int .i64 j ∧ Hid (Kept (fun _ => True) w wr)) (fun i _ => n - (intOf i).toNat)
    case atStart => exact ⟨0, Nat.zero_le _, rfl, Lib.hid (Kept.refl _ _)⟩
    case round =>
      obtain ⟨j, hj, rfl, hK⟩ := hrel
      by_cases hlt : j < n
      · obtain ⟨v, hv⟩ : ∃ v, v = bs.getD j 0 := ⟨_, rfl⟩
        have c1 : wr.cell? ⟨b, o + j, none⟩ = some (.int .u8 v) := by rw [hK.out.cell (p := ⟨b, o + j, none⟩) trivial, hv]; exact HC.out j (by rw [← HN.out]; exact hlt)
        have c2 : wr.cell? ⟨b', o' + j, none⟩ = some (.int .u8 v) := by rw [hK.out.cell (p := ⟨b', o' + j, none⟩) trivial, hv]; exact KC.out j (by rw [← HN.out]; exact hlt)
        clear hv
        go_wp2
        go_quiet (fail)
        go_wp2
        go_roundw
        case rel => exact ⟨j + 1, by omega, by go_num, Lib.hid (hK.out.drewN _)⟩
        case measure => simp [intOf]; omega
      · obtain rfl : j = n := by omega
        go_wp2
        go_ret
        exact ⟨rfl, hK.out⟩

set_option maxHeartbeats 1000000 in
set_option maxRecDepth 100000 in
theorem same_q {M M' : Nat → Prop} {w : World} {x y : Value} {bs : List Int} (hx : Elem M w x bs) (hy : Elem M' w y bs) (hl : bs.length ≤ 1000000) :
    Calls Tryz.prog 20 #[x, y] w fun e w' => e = .returned (.bool true) ∧ ∃ m, w' = w.drewN m := by
  obtain ⟨p, c, rfl, _, _, _, _, h5⟩ := hx
  obtain ⟨q, d, rfl, _, _, _, _, k5⟩ := hy
  by_cases h0 : bs.length = 0
  · rw [h0]
    clear h5 k5
    go_enter Tryz.func20, Tryz.ntmps20
    go_wp2
    refine wp_loop_once ?_
    go_wp2
    go_ret
    exact ⟨rfl, 0, rfl⟩
  · obtain ⟨b, o, rfl, _, hc⟩ := h5 (by omega)
    obtain ⟨b', o', rfl, _, kc⟩ := k5 (by omega)
    have HC := Lib.hid hc
    have KC := Lib.hid kc
    clear hc kc h5 k5
    obtain ⟨n, hn⟩ : ∃ n, n = bs.length := ⟨_, rfl⟩
    rw [← hn]
    have HN := Lib.hid hn
    have hn' : n ≤ 1000000 := by rw [hn]; exact hl
    clear hn hl h0
    go_enter Tryz.func20, Tryz.ntmps20
    go_wp2
    go_loopw [5] (fun i wr => ∃ j : Nat, j ≤ n ∧ i = .int .i64 j ∧ ∃ m, wr = w.drewN m) (fun i _ => n - (intOf i).toNat)
    case atStart => exact ⟨0, Nat.zero_le _, rfl, 0, rfl⟩
    case round =>
      obtain ⟨j, hj, rfl, m, rfl⟩ := hrel
      by_cases hlt : j < n
      · obtain ⟨v, hv⟩ : ∃ v, v = bs.getD j 0 := ⟨_, rfl⟩
        have c1 : w.cell? ⟨b, o + j, none⟩ = some (.int .u8 v) := by rw [hv]; exact HC.out j (by rw [← HN.out]; exact hlt)
        have c2 : w.cell? ⟨b', o' + j, none⟩ = some (.int .u8 v) := by rw [hv]; exact KC.out j (by rw [← HN.out]; exact hlt)
        clear hv
        go_wp2
        go_quiet (fail)
        go_wp2
        go_roundw
        case rel => exact ⟨j + 1, by omega, by go_num, m + nq, by simp [World.drewN]⟩
        case measure => simp [intOf]; omega
      · obtain rfl : j = n := by omega
        go_wp2
        go_ret
        exact ⟨rfl, m, rfl⟩
end Go.Proofs.YtaohcejbjeaemaaGreatDoor
