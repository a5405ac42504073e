/- The zero value of lzw's Reader (16398 cells): its cells under one name, the three that are read. -/
import Derived.Test.YthlhcfjpijilaaaDoorSmall
import Derived.Deep.WholeRow
namespace Go.Proofs.YthlhcfjpijilaaaDoor
open Go.RowKit

/-- The cells of a new Reader. -/
noncomputable def ZR : Array Value := match (Tryd.prog.info? 56).bind (·.zero) with | some (.agg cs) => cs | _ => #[]

set_option maxRecDepth 100000 in
theorem ZR_info : (Tryd.prog.info? 56).map (fun i => (i.zero, i.size)) = some (some (.agg ZR), 16398) := by kernel_rfl
theorem ZR_zero (w : World) : (zeroValue 56).run Tryd.prog w = .ok (.agg ZR) w := (zero_of_info ZR_info).1 w
theorem ZR_4 : ZR[4]? = some .nilFunc := by kernel_rfl
theorem ZR_6 : ZR[6]? = some .nilIface := by kernel_rfl
theorem ZR_16397 : ZR[16397]? = some (.slice none 0 0) := by kernel_rfl
theorem ZR_size : ZR.size = 16398 := by kernel_rfl

end Go.Proofs.YthlhcfjpijilaaaDoor
