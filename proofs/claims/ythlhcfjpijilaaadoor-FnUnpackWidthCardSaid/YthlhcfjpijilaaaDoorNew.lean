/- Contracts of lzw's newReader and NewReader at a width outside 2..8: a new Reader that holds an error and nothing to read. -/
import Derived.Test.YthlhcfjpijilaaaDoorInit
import Derived.Test.YthlhcfjpijilaaaDoorZero
namespace Go.Proofs.YthlhcfjpijilaaaDoor
open Go.RowKit

/-- WHAT A READER IN BLOCK B HOLDS BEHIND 'init' AT A WRONG WIDTH: nothing to read, an error of a block of its own. -/
def Made (B : Nat) (w : World) : Prop :=
  B + 1 < w.heap.size ∧ w.cell? ⟨B, 6, none⟩ = some (.iface 65 (.pointer (some ⟨B + 1, 0, none⟩))) ∧ w.cell? ⟨B, 16397, none⟩ = some (.slice none 0 0) ∧
    w.heap[B + 1]? = some (.cells #[.string widthS] 67 (0, 0))

theorem made_of_init (w : World) (f : Nat) : Below w.heap.size w (initW (w.alloc (.cells ZR 56)) w.heap.size f) ∧ Made w.heap.size (initW (w.alloc (.cells ZR 56)) w.heap.size f) := by
  have hs := ZR_size
  unfold initW Made
  rw [World.setCell_alloc_new, World.setCell_alloc_new]
  refine ⟨((Below.refl _ _).alloc (Nat.le_refl _) _).alloc (by simp) _, by simp, ?_, ?_, ?_⟩
  · rw [World.cell?_alloc_past _ _ _ (by simp), World.cell?_alloc_new]
    rw [Array.getElem?_setIfInBounds_self]
    simp [hs]
  · rw [World.cell?_alloc_past _ _ _ (by simp), World.cell?_alloc_new]
    rw [Array.getElem?_setIfInBounds_ne (by decide), Array.getElem?_setIfInBounds_ne (by decide)]
    exact ZR_16397
  · show (Array.push (w.heap.push _) _)[w.heap.size + 1]? = _
    rw [Array.getElem?_push, if_pos (by simp)]

set_option maxHeartbeats 400000 in
theorem newReader_bad (src : Value) (o n : Int) (w : World) (ho : Hid (o = 0 ∨ o = 1)) (hn : Hid (n < 2 ∨ 8 < n)) :
    Calls Tryd.prog 9 #[src, .int .i64 o, .int .i64 n] w fun e w' => e = .returned (.pointer (some ⟨w.heap.size, 0, none⟩)) ∧ Below w.heap.size w w' ∧ Made w.heap.size w' := by
  have hz := ZR_zero
  go_enter Tryd.func9, Tryd.ntmps9
  go_wp2_with fail
  refine (init_bad w.heap.size .nilFunc .nilIface src n (w.alloc (.cells ZR 56)) (by rw [World.cell?_alloc_new]; exact ZR_4) (by simp) (by rw [World.cell?_alloc_new]; exact ZR_6) (by simp) (by simp) o ho.out hn.out).mono ?_
  rintro e w' ⟨rfl, f, rfl⟩
  have HM := made_of_init w f
  generalize initW (w.alloc (.cells ZR 56)) w.heap.size f = w1 at HM
  go_wp2
  go_ret
  exact ⟨rfl, HM.1, HM.2⟩

set_option maxHeartbeats 400000 in
theorem NewReader_bad (src : Value) (o n : Int) (w : World) (ho : Hid (o = 0 ∨ o = 1)) (hn : Hid (n < 2 ∨ 8 < n)) :
    Calls Tryd.prog 5 #[src, .int .i64 o, .int .i64 n] w fun e w' => e = .returned (.iface 42 (.pointer (some ⟨w.heap.size, 0, none⟩))) ∧ Below w.heap.size w w' ∧ Made w.heap.size w' := by
  go_enter Tryd.func5, Tryd.ntmps5
  go_wp2_with fail
  refine (newReader_bad src o n w ho hn).mono ?_
  rintro e w' ⟨rfl, hb, hm⟩
  go_wp2
  go_ret
  exact ⟨rfl, hb, hm⟩

end Go.Proofs.YthlhcfjpijilaaaDoor
