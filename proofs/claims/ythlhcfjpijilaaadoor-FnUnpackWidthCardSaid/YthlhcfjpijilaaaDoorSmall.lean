/- Contracts of the small functions that the statement FnUnpackWidth reaches: errors.New, orderOf, bytes.NewReader. -/
import Derived.Test.YthlhcfjpijilaaaDoorRows
import Derived.WalkKit
import Derived.WalkSpells
import Derived.WalkLawsBesides
import Derived.Laws.EntriesVeiled
namespace Go.Proofs.YthlhcfjpijilaaaDoor
open Go.RowKit

theorem new_any (s : ByteArray) (w : World) :
    Calls Tryd.prog 13 #[.string s] w fun e w' => e = .returned (.iface 65 (.pointer (some ⟨w.heap.size, 0, none⟩))) ∧ w.alloc (.cells #[.string s] 67) = w' := by
  go_enter Tryd.func13, Tryd.ntmps13
  go_wp2
  go_ret
  exact ⟨rfl, rfl⟩

theorem order_true (w : World) :
    Calls Tryd.prog 8 #[.bool true] w fun e w' => e = .returned (.int .i64 1) ∧ w = w' := by
  go_enter Tryd.func8, Tryd.ntmps8
  go_wp2
  go_ret
  exact ⟨rfl, rfl⟩

theorem order_false (w : World) :
    Calls Tryd.prog 8 #[.bool false] w fun e w' => e = .returned (.int .i64 0) ∧ w = w' := by
  go_enter Tryd.func8, Tryd.ntmps8
  go_wp2
  go_ret
  exact ⟨rfl, rfl⟩

set_option maxHeartbeats 400000 in
theorem bytesReader_any (a : Option Addr) (n c : Nat) (w : World) :
    Calls Tryd.prog 6 #[.slice a n c] w fun e w' => e = .returned (.pointer (some ⟨w.heap.size, 0, none⟩)) ∧ w.alloc (.cells #[.slice a n c, .int .i64 0, .int .i64 (-1)] 45) = w' := by
  go_enter Tryd.func6, Tryd.ntmps6
  go_wp2
  go_ret
  exact ⟨rfl, rfl⟩

end Go.Proofs.YthlhcfjpijilaaaDoor
