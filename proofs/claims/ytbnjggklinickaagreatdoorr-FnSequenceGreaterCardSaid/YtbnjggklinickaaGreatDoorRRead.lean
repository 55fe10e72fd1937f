import Derived.Test.YtbnjggklinickaaGreatDoorRMem
import Derived.Deep.QuietTactic
import Derived.BigQuiet
namespace Go.Proofs.YtbnjggklinickaaGreatDoorR
open Go Go.RowKit

set_option maxHeartbeats 400000 in
theorem depth_any {b o : Nat} {w : World} {p : Option Addr} {n k : Nat} (hc : w.cell? ⟨b, o, none⟩ = some (.slice p n k)) (hn : n ≤ 1000000) :
    Calls Tryz.prog 36 #[.pointer (some ⟨b, o, none⟩)] w fun e w' => e = .returned (.int .i32 n) ∧ w = w' := by
  go_enter Tryz.func36, Tryz.ntmps36
  go_wp2
  go_ret
  exact ⟨rfl, rfl⟩
#print axioms depth_any

set_option maxHeartbeats 400000 in
theorem err_any {b o : Nat} {w : World} (hc : w.cell? ⟨b, o + 6, none⟩ = some .nilIface) :
    Calls Tryz.prog 33 #[.pointer (some ⟨b, o, none⟩)] w fun e w' => e = .returned .nilIface ∧ w = w' := by
  go_enter Tryz.func33, Tryz.ntmps33
  go_wp2
  go_ret
  exact ⟨rfl, rfl⟩
#print axioms err_any

set_option maxHeartbeats 400000 in
theorem data_any {b o : Nat} {w : World} {p : Option Addr} {n k : Nat} (hc : w.cell? ⟨b, o + 5, none⟩ = some (.slice p n k)) :
    Calls Tryz.prog 35 #[.pointer (some ⟨b, o, none⟩)] w fun e w' => e = .returned (.slice p n k) ∧ w = w' := by
  go_enter Tryz.func35, Tryz.ntmps35
  go_wp2
  go_ret
  exact ⟨rfl, rfl⟩
#print axioms data_any

set_option maxHeartbeats 400000 in
theorem done_any {b o : Nat} {w : World} {p : Option Addr} {n k : Nat} {off : Int} (hs : w.cell? ⟨b, o, none⟩ = some (.slice p n k)) (hn : n ≤ 1000000) (ho : w.cell? ⟨b, o + 2, none⟩ = some (.int .i32 off)) (he : w.cell? ⟨b, o + 6, none⟩ = some .nilIface) :
    Calls Tryz.prog 37 #[.pointer (some ⟨b, o, none⟩)] w fun e w' => e = .returned (.bool (decide ((n : Int) ≤ off))) ∧ ∃ d, w' = w.drewN d := by
  go_enter Tryz.func37, Tryz.ntmps37
  go_wp2
  go_quiet (fail)
  go_wp2
  go_ret
  exact ⟨rfl, _, rfl⟩
#print axioms done_any

set_option maxHeartbeats 400000 in
theorem hasFlag_any {b : Nat} {w : World} {fl g : Int} (hc : w.cell? ⟨b, 0, none⟩ = some (.int .u32 fl)) :
    Calls Tryz.prog 23 #[.pointer (some ⟨b, 0, none⟩), .int .u32 g] w fun e w' => e = .returned (.bool (bits .and .u32 fl g == g)) ∧ w = w' := by
  go_enter Tryz.func23, Tryz.ntmps23
  go_wp2
  go_ret
  exact ⟨rfl, rfl⟩
#print axioms hasFlag_any

set_option maxHeartbeats 400000 in
theorem branch_any {b : Nat} {w : World} (hc : w.cell? ⟨b, 27, none⟩ = some (.slice none 0 0)) :
    Calls Tryz.prog 58 #[.pointer (some ⟨b, 0, none⟩)] w fun e w' => e = .returned (.bool true) ∧ w = w' := by
  go_enter Tryz.func58, Tryz.ntmps58
  go_wp2
  go_ret
  exact ⟨rfl, rfl⟩
#print axioms branch_any

set_option maxHeartbeats 400000 in
theorem validPC_any {b : Nat} {w : World} {p : Option Addr} {n k : Nat} {si : Int} (hs : w.cell? ⟨b, 11, none⟩ = some (.slice p n k)) (hi : w.cell? ⟨b, 12, none⟩ = some (.int .i64 si)) (hlt : si < n) :
    Calls Tryz.prog 31 #[.pointer (some ⟨b, 0, none⟩)] w fun e w' => e = .returned .nilIface ∧ ∃ d, w' = w.drewN d := by
  have hd : decide ((n : Int) ≤ si) = false := by simpa using hlt
  go_enter Tryz.func31, Tryz.ntmps31
  go_wp2
  go_quiet (fail)
  go_wp2
  go_ret
  exact ⟨rfl, _, rfl⟩
#print axioms validPC_any

set_option maxHeartbeats 400000 in
theorem wva_any {b : Nat} {w : World} {v : Int} (hc : w.cell? ⟨b, 30, none⟩ = some (.slice none 0 0)) :
    Calls Tryz.prog 41 #[.pointer (some ⟨b, 0, none⟩), .int .u64 v] w fun e w' => e = .returned (.bool false) ∧ w = w' := by
  have hq := fun (wx : World) (a : Option Addr) (n c n' c' : Nat) => run_neq_slice_nil_any (P := Tryz.prog) wx 24 5 a n c n' c' Tryz.underlying24
  go_enter Tryz.func41, Tryz.ntmps41
  go_wp2
  go_ret
  exact ⟨rfl, rfl⟩
#print axioms wva_any
end Go.Proofs.YtbnjggklinickaaGreatDoorR
