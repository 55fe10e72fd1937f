import Derived.Test.YtbnjggklinickaaGreatDoorRNip
import Derived.Test.YtbnjggklinickaaGreatDoorRRead
namespace Go.Proofs.YtbnjggklinickaaGreatDoorR
open Go Go.RowKit

/-- What a failing call leaves: an error of that code, and memory only made. -/
def Fails (code : Int) (w : World) (e : Ending) (w' : World) : Prop := ∃ s : ByteArray, e = .returned (.iface 67 (.agg #[.int .i64 code, .string s])) ∧ Below w.heap.size w w'

theorem scriptError_any (c : Int) (s : ByteArray) (w : World) : Calls Tryz.prog 22 #[.int .i64 c, .string s] w fun e w' => e = .returned (.agg #[.int .i64 c, .string s]) ∧ w.alloc (.cells #[.int .i64 c, .string s] 67) = w' := by
  go_enter Tryz.func22, Tryz.ntmps22
  go_wp2
  exact bodyPost_ret (v := .agg #[.int .i64 c, .string s]) (by simp [results, Tryz.results22, go_sem]) rfl ⟨rfl, rfl⟩
#print axioms scriptError_any

set_option maxHeartbeats 400000 in
theorem pop_any {M : Nat → Prop} {b o : Nat} {T : TypeId} {c : Array Value} {w : World} {dv : Value} {D : List Value} {p : Option Addr} {m k : Nat} (h : StkIn M b o T c w dv (D ++ [.slice p m k])) (hD : D.length ≤ 1000000) :
    Calls Tryz.prog 62 #[.pointer (some ⟨b, o, none⟩)] w fun e w' => e = .returned (.tuple #[.slice p m k, .nilIface]) ∧ StkPost M b o T c w w' D := by
  have H := Lib.hid h
  clear h
  go_enter Tryz.func62, Tryz.ntmps62
  go_wp2_with (go_at_call 144; refine (nip_zero H.out hD).mono ?_; rintro e w' ⟨rfl, hq⟩; have HQ := Lib.hid hq; clear hq)
  go_ret2
  exact ⟨rfl, HQ.out⟩
#print axioms pop_any

set_option maxHeartbeats 400000 in
set_option maxRecDepth 100000 in
theorem peek_any {b o : Nat} {w : World} {g n cap : Nat} {p : Option Addr} {m k : Nat} (hc : w.cell? ⟨b, o, none⟩ = some (.slice (some ⟨g, 0, none⟩) n cap)) (hn : n ≤ 1000000) (j : Int) (i : Nat) (hj : j = i) (hi : i < n) (hx : w.cell? ⟨g, n - i - 1, none⟩ = some (.slice p m k)) :
    Calls Tryz.prog 43 #[.pointer (some ⟨b, o, none⟩), .int .i32 j] w fun e w' => e = .returned (.tuple #[.slice p m k, .nilIface]) ∧ w = w' := by
  subst hj
  have h1 : (0 : Int) ≤ n - i - 1 := by omega
  go_enter Tryz.func43, Tryz.ntmps43
  go_wp2
  go_ret2
  exact ⟨rfl, rfl⟩
#print axioms peek_any

set_option maxHeartbeats 400000 in
theorem asBool_one {M : Nat → Prop} {w : World} {x : Value} (hx : Elem M w x [1]) :
    Calls Tryz.prog 68 #[x] w fun e w' => e = .returned (.bool true) ∧ w = w' := by
  obtain ⟨p, c, rfl, h1, h2, h3, h4, h5⟩ := hx
  obtain ⟨b, o, rfl, hM, hc⟩ := h5 (by simp)
  have hb : w.cell? ⟨b, o, none⟩ = some (.int .u8 1) := by simpa using hc 0 (by simp)
  clear hc h5 h4 h3 hM
  simp only [List.length_cons, List.length_nil, Nat.zero_add]
  go_enter Tryz.func68, Tryz.ntmps68
  go_wp2
  refine wp_loop_once ?_
  go_wp2
  go_ret
  exact ⟨rfl, rfl⟩
#print axioms asBool_one

set_option maxHeartbeats 400000 in
set_option maxRecDepth 100000 in
theorem drop_one {M : Nat → Prop} {b o : Nat} {T : TypeId} {c : Array Value} {w : World} {dv : Value} {D : List Value} {p : Option Addr} {m k : Nat} (h : StkIn M b o T c w dv (D ++ [.slice p m k])) (hD : D.length ≤ 1000000) :
    Calls Tryz.prog 38 #[.pointer (some ⟨b, o, none⟩), .int .i32 1] w fun e w' => e = .returned .nilIface ∧ StkPost M b o T c w w' D := by
  have H := Lib.hid h
  clear h
  go_enter Tryz.func38, Tryz.ntmps38
  go_wp2_with fail
  refine wp_loop_rounds 2 ?_
  rw [rounds_succ]
  go_wp2_with (go_at_call 62; refine (pop_any H.out hD).mono ?_; rintro e w' ⟨rfl, hq⟩; have HQ := Lib.hid hq; clear hq)
  rw [rounds_succ]
  go_wp2
  go_ret
  exact ⟨rfl, HQ.out⟩
#print axioms drop_one

set_option maxHeartbeats 400000 in
set_option maxRecDepth 100000 in
theorem drop_zero {b o : Nat} {w : World} :
    Calls Tryz.prog 38 #[.pointer (some ⟨b, o, none⟩), .int .i32 0] w (Fails 28 w) := by
  go_enter Tryz.func38, Tryz.ntmps38
  go_wp2_with (go_at_call 22; refine (scriptError_any _ _ _).mono ?_; rintro e w' ⟨rfl, rfl⟩)
  go_ret
  exact ⟨_, rfl, (Below.refl _ _).alloc (Nat.le_refl _) _⟩
#print axioms drop_zero
end Go.Proofs.YtbnjggklinickaaGreatDoorR
