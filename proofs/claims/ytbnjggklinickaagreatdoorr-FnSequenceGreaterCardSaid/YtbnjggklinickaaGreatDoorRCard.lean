/-
  laws.FnSequenceGreater, THE TIED CARD: for every asked, lock, greater (16 bits each), seconds and version the law returns true and leaves its arguments as they were: a lock that counts from the output on, and that an input's sequence meets, is met by each greater one of its kind.
  Conditions: the row's own: errors.errorType and bytes.ErrTooLarge read as the program's text lays them, which the card ties to that text (the walk reads neither).
-/
import Derived.Test.YtbnjggklinickaaGreatDoorRRow
import Derived.Test.YtbnjggklinickaaGreatDoorRTie
import Derived.Test.YtbnjggklinickaaGreatDoorRCards
import Derived.SevenTiedAt
namespace Go.Proofs.YtbnjggklinickaaGreatDoorR
open Go
theorem wants_u16 : Tryz.pinned.checked.prog.wantsStandIn 22 = false := by kernel_rfl
theorem wants_bool : Tryz.pinned.checked.prog.wantsStandIn 4 = false := by kernel_rfl
theorem wants_i32 : Tryz.pinned.checked.prog.wantsStandIn 21 = false := by kernel_rfl

theorem card_holds : Rows.FnSequenceGreaterCardSaid :=
  Claim7.holds_tied_plain_at .later [] _ _ _ _
    row_holds (fun _ h => by cases h) (by kernel_rfl) (fun _ h => by cases h) fnSequenceGreater_row_tie rfl ⟨rfl, rfl⟩ (by kernel_rfl) rfl
    (fun f fn hf hfn => by
      obtain rfl : f = 3 := (Option.some.inj (named_law.symm.trans hf)).symm
      obtain rfl : fn = Tryz.f3 := (Option.some.inj (Tryz.func3.symm.trans hfn)).symm
      exact ⟨by kernel_rfl, fun j t ht => by
        rw [Tryz.params3] at ht
        have hm := Array.mem_of_getElem? ht
        simp only [List.mem_toArray, List.mem_cons, List.not_mem_nil, or_false] at hm
        rcases hm with rfl | rfl | rfl | rfl | rfl
        · exact wants_u16
        · exact wants_bool
        · exact wants_u16
        · exact wants_u16
        · exact wants_i32⟩)
    (by kernel_rfl)
#print axioms card_holds
end Go.Proofs.YtbnjggklinickaaGreatDoorR
