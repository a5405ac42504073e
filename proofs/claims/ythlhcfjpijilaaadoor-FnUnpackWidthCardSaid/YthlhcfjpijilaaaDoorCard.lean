/-
  laws.FnUnpackWidth returns true for every slice of bytes, every int8 and every bool, and its arguments read afterwards as before: lzw's Reader refuses a width below 2 or above 8.
  Conditions: none that is typed; io.EOF holds what its own initialiser lays (tied to the program's text by the given tie: the card FnUnpackWidthCardSaid).
-/
import Derived.Test.YthlhcfjpijilaaaDoorRow
import Derived.Test.YthlhcfjpijilaaaDoorTie
import Derived.Test.YthlhcfjpijilaaaDoorCards
import Derived.SevenTiedAt
namespace Go.Proofs.YthlhcfjpijilaaaDoor
open Go

theorem fnUnpackWidth_card : Rows.FnUnpackWidthCardSaid :=
  Claim7.holds_tied_plain_at .later [] [.sentinel] true (true, "830dcd0f8a0d69b7d7a40cee1f76798b16fbe57d8443075847489249a8b1cd8b") true
    fnUnpackWidth_holds (fun _ h => by cases h) (by kernel_rfl) (fun _ h => by cases h) fnUnpackWidth_row_tie rfl ⟨rfl, rfl⟩ (by kernel_rfl) rfl
    (fun f fn hf hfn => by
      obtain rfl : f = 3 := Option.some.inj ((show Tryd.prog.funcNamed Rows.fnUnpackWidthRow.func = some 3 by kernel_rfl).symm.trans hf) |>.symm
      obtain rfl : fn = Tryd.f3 := (Option.some.inj (Tryd.func3.symm.trans hfn)).symm
      exact ⟨by kernel_rfl, fun j t ht => by
        rw [Tryd.params3] at ht
        have hm : t ∈ [22, 23, 4] := by simpa using Array.mem_of_getElem? ht
        have hall : ([22, 23, 4].all fun u => !Tryd.prog.wantsStandIn u) = true := by kernel_rfl
        exact (show Tryd.prog.wantsStandIn t = false by simpa using List.all_eq_true.1 hall t hm)⟩)
    (by kernel_rfl)
#print axioms fnUnpackWidth_card
end Go.Proofs.YthlhcfjpijilaaaDoor
