/- Contracts of lzw's Reader.init at a width outside 2..8: the error is laid, nothing else but the way of reading. -/
import Derived.Test.YthlhcfjpijilaaaDoorSmall
namespace Go.Proofs.YthlhcfjpijilaaaDoor
open Go.RowKit

abbrev widthS : ByteArray := { data := #[108, 122, 119, 58, 32, 108, 105, 116, 87, 105, 100, 116, 104, 32, 111, 117, 116, 32, 111, 102, 32, 114, 97, 110, 103, 101] }

/-- The world behind 'init': the way of reading (f), the error, the error's text in a new block. -/
def initW (w : World) (b f : Nat) : World :=
  ((w.setCell ⟨b, 4, none⟩ (.func (.func f) #[] #[])).setCell ⟨b, 6, none⟩ (.iface 65 (.pointer (some ⟨w.heap.size, 0, none⟩)))).alloc (.cells #[.string widthS] 67)

section
variable (b : Nat) (x4 x6 src : Value) (n : Int) (w : World) (h4 : w.cell? ⟨b, 4, none⟩ = some x4) (g4 : w.frozen? ⟨b, 4, none⟩ = false)
    (h6 : w.cell? ⟨b, 6, none⟩ = some x6) (g6 : w.frozen? ⟨b, 6, none⟩ = false) (hb : b < w.heap.size)
include h4 g4 h6 g6 hb

set_option maxHeartbeats 400000 in
theorem init_lo0 (hn : n < 2) :
    Calls Tryd.prog 10 #[.pointer (some ⟨b, 0, none⟩), src, .int .i64 0, .int .i64 n] w fun e w' => e = .returned (.tuple #[]) ∧ initW w b 11 = w' := by
  go_enter Tryd.func10, Tryd.ntmps10
  go_wp2
  exact bodyPost_ret (results_none Tryd.results10 _ _ _) rfl ⟨rfl, rfl⟩

set_option maxHeartbeats 400000 in
theorem init_lo1 (hn : n < 2) :
    Calls Tryd.prog 10 #[.pointer (some ⟨b, 0, none⟩), src, .int .i64 1, .int .i64 n] w fun e w' => e = .returned (.tuple #[]) ∧ initW w b 12 = w' := by
  go_enter Tryd.func10, Tryd.ntmps10
  go_wp2
  exact bodyPost_ret (results_none Tryd.results10 _ _ _) rfl ⟨rfl, rfl⟩

set_option maxHeartbeats 400000 in
theorem init_hi0 (hn : 8 < n) :
    Calls Tryd.prog 10 #[.pointer (some ⟨b, 0, none⟩), src, .int .i64 0, .int .i64 n] w fun e w' => e = .returned (.tuple #[]) ∧ initW w b 11 = w' := by
  go_enter Tryd.func10, Tryd.ntmps10
  go_wp2
  exact bodyPost_ret (results_none Tryd.results10 _ _ _) rfl ⟨rfl, rfl⟩

set_option maxHeartbeats 400000 in
theorem init_hi1 (hn : 8 < n) :
    Calls Tryd.prog 10 #[.pointer (some ⟨b, 0, none⟩), src, .int .i64 1, .int .i64 n] w fun e w' => e = .returned (.tuple #[]) ∧ initW w b 12 = w' := by
  go_enter Tryd.func10, Tryd.ntmps10
  go_wp2
  exact bodyPost_ret (results_none Tryd.results10 _ _ _) rfl ⟨rfl, rfl⟩

/-- INIT AT A WIDTH OUTSIDE 2..8, either order. -/
def InitDone (w : World) (b : Nat) (e : Ending) (w' : World) : Prop := e = .returned (.tuple #[]) ∧ ∃ f : Nat, initW w b f = w'

theorem init_bad (o : Int) (ho : o = 0 ∨ o = 1) (hn : n < 2 ∨ 8 < n) :
    Calls Tryd.prog 10 #[.pointer (some ⟨b, 0, none⟩), src, .int .i64 o, .int .i64 n] w (InitDone w b) := by
  rcases ho with rfl | rfl <;> rcases hn with hn | hn
  · exact (init_lo0 b x4 x6 src n w h4 g4 h6 g6 hb hn).mono fun e w' ⟨he, hw⟩ => ⟨he, 11, hw⟩
  · exact (init_hi0 b x4 x6 src n w h4 g4 h6 g6 hb hn).mono fun e w' ⟨he, hw⟩ => ⟨he, 11, hw⟩
  · exact (init_lo1 b x4 x6 src n w h4 g4 h6 g6 hb hn).mono fun e w' ⟨he, hw⟩ => ⟨he, 12, hw⟩
  · exact (init_hi1 b x4 x6 src n w h4 g4 h6 g6 hb hn).mono fun e w' ⟨he, hw⟩ => ⟨he, 12, hw⟩
end

end Go.Proofs.YthlhcfjpijilaaaDoor
