/- Contract of laws.FnUnpackWidth: for every slice of bytes, every width and either order the call returns true. -/
import Derived.Test.YthlhcfjpijilaaaDoorUnpack
namespace Go.Proofs.YthlhcfjpijilaaaDoor
open Go.RowKit

/-- 'true' comes back; below the heap's size all is as it was. -/
def Yes (w : World) (e : Ending) (w' : World) : Prop := e = .returned (.bool true) ∧ Below w.heap.size w w'

section
variable (a : Option Addr) (n c : Nat) (k : Int) (b : Bool) (w : World)

set_option maxHeartbeats 400000 in
theorem law_size (hn : 2147483647 < n) : Calls Tryd.prog 3 #[.slice a n c, .int .i8 k, .bool b] w (Yes w) := by
  go_enter Tryd.func3, Tryd.ntmps3
  go_wp2_with fail
  go_ret
  exact ⟨rfl, Below.refl _ _⟩

set_option maxHeartbeats 400000 in
theorem law_long (hn : n ≤ 2147483647) (hl : 1000 < n) : Calls Tryd.prog 3 #[.slice a n c, .int .i8 k, .bool b] w (Yes w) := by
  go_enter Tryd.func3, Tryd.ntmps3
  go_wp2_with fail
  go_ret
  exact ⟨rfl, Below.refl _ _⟩

set_option maxHeartbeats 400000 in
theorem law_right (hl : n ≤ 1000) (h2 : 2 ≤ k) (h8 : k ≤ 8) : Calls Tryd.prog 3 #[.slice a n c, .int .i8 k, .bool b] w (Yes w) := by
  go_enter Tryd.func3, Tryd.ntmps3
  go_wp2_with fail
  go_ret
  exact ⟨rfl, Below.refl _ _⟩

variable (aE : Addr) (cE : Array Value) (tE : TypeId) (hv : n ≤ 1000 → BytesIn (.slice a n c) n w)
    (hE : w.cell? ⟨0, 0, none⟩ = some (.iface 65 (.pointer (some aE)))) (hEb : w.heap[aE.block]? = some (.cells cE tE (0, 0))) (h0 : 0 < w.heap.size)
include hv hE hEb h0

set_option maxHeartbeats 400000 in
theorem law_low (hl : n ≤ 1000) (hk : -128 ≤ k) (h2 : k < 2) : Calls Tryd.prog 3 #[.slice a n c, .int .i8 k, .bool b] w (Yes w) := by
  have U := unpack_bad (.slice a n c) n k b aE cE tE w (hv hl) (.inl h2) hE hEb h0
  have HU : Hid (Calls Tryd.prog 4 #[.slice a n c, .int .i64 k, .bool b, .slice none 0 0] w (Refused w)) := U
  clear U hv hE hEb
  go_enter Tryd.func3, Tryd.ntmps3
  go_wp2_with fail
  refine HU.out.mono ?_
  rintro e w1 ⟨a', c', rfl, hb⟩
  go_wp2_with fail
  go_ret
  exact ⟨rfl, hb⟩

set_option maxHeartbeats 400000 in
theorem law_high (hl : n ≤ 1000) (hk : k ≤ 127) (h8 : 8 < k) : Calls Tryd.prog 3 #[.slice a n c, .int .i8 k, .bool b] w (Yes w) := by
  have U := unpack_bad (.slice a n c) n k b aE cE tE w (hv hl) (.inr h8) hE hEb h0
  have HU : Hid (Calls Tryd.prog 4 #[.slice a n c, .int .i64 k, .bool b, .slice none 0 0] w (Refused w)) := U
  clear U hv hE hEb
  go_enter Tryd.func3, Tryd.ntmps3
  go_wp2_with fail
  refine HU.out.mono ?_
  rintro e w1 ⟨a', c', rfl, hb⟩
  go_wp2_with fail
  go_ret
  exact ⟨rfl, hb⟩

theorem law_any (hk1 : -128 ≤ k) (hk2 : k ≤ 127) : Calls Tryd.prog 3 #[.slice a n c, .int .i8 k, .bool b] w (Yes w) := by
  by_cases h1 : 2147483647 < n
  · exact law_size a n c k b w h1
  by_cases hl : 1000 < n
  · exact law_long a n c k b w (by omega) hl
  by_cases h2 : k < 2
  · exact law_low a n c k b w aE cE tE hv hE hEb h0 (by omega) hk1 h2
  by_cases h8 : 8 < k
  · exact law_high a n c k b w aE cE tE hv hE hEb h0 (by omega) hk2 h8
  exact law_right a n c k b w (by omega) (by omega) (by omega)
end

end Go.Proofs.YthlhcfjpijilaaaDoor
