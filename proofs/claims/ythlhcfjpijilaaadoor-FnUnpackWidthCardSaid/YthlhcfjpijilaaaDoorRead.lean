/- Contract of lzw's Reader.Read where nothing is to be read and an error stands. -/
import Derived.Test.YthlhcfjpijilaaaDoorNew
import Derived.Deep.QuietTactic
import Derived.BigQuiet
import Derived.Outline
namespace Go.Proofs.YthlhcfjpijilaaaDoor
open Go.RowKit

set_option maxHeartbeats 400000 in
theorem read_err (B E : Nat) (buf : Value) (w : World) (h6 : w.cell? ⟨B, 6, none⟩ = some (.iface 65 (.pointer (some ⟨E, 0, none⟩)))) (ht : w.cell? ⟨B, 16397, none⟩ = some (.slice none 0 0)) :
    Calls Tryd.prog 36 #[.pointer (some ⟨B, 0, none⟩), buf] w fun e w' => e = .returned (.tuple #[.int .i64 0, .iface 65 (.pointer (some ⟨E, 0, none⟩))]) ∧ ∃ k, w' = w.drewN k := by
  go_enter Tryd.func36, Tryd.ntmps36
  go_wp2
  refine wp_loop_rounds 1 ?_
  rw [rounds_succ]
  go_wp2
  go_quiet (fail)
  go_wp2
  go_ret2
  exact ⟨rfl, _, rfl⟩

end Go.Proofs.YthlhcfjpijilaaaDoor
