/- Contract of impl.Unpack at a width outside 2..8: no byte, and the code Bad. -/
import Derived.Test.YthlhcfjpijilaaaDoorRead
import Derived.Test.YthlhcfjpijilaaaDoorClone
import Derived.LaidEql
import Derived.WalkSmall
namespace Go.Proofs.YthlhcfjpijilaaaDoor
open Go.RowKit

/-- The order of bits as a number. -/
def ordI (b : Bool) : Int := if b then 1 else 0
theorem ordI_or (b : Bool) : ordI b = 0 ∨ ordI b = 1 := by cases b <;> simp [ordI]
theorem order_any (b : Bool) (w : World) : Calls Tryd.prog 8 #[.bool b] w fun e w' => e = .returned (.int .i64 (ordI b)) ∧ w = w' := by
  cases b
  · exact order_false w
  · exact order_true w

/-- The cells of 'make([]byte, 512)'. -/
noncomputable def BUF : Array Value := madeCells #[.int .u8 0] 512
theorem make_buf (w : World) : (Instr.makeSlice 22 (.int .i64 512) (.int .i64 512)).run Tryd.prog w = .ok (.slice (some ⟨w.heap.size, 0, none⟩) 512 512) (w.alloc (.cells BUF 5)) := by
  obtain ⟨i0, hi, hz0, hz1, hz2⟩ := info_parts Tryd.info5
  have h := run_make (P := Tryd.prog) w 22 5 i0 (.int .u8 0) Tryd.underlying22 hi hz0 .i64 .i64 512 512 (by decide) (by decide) (by rw [hz2]; decide) (by decide)
  rw [h, hz1]
  rfl

theorem method_read (a : Addr) (w : World) : (method 191 42 (.pointer (some a)) "Read").run Tryd.prog w = .ok (36, .pointer (some a)) w := by kernel_rfl

/-- 'Read' in the words of 'Below'. -/
theorem read_below (B E : Nat) (buf : Value) (w : World) (h6 : w.cell? ⟨B, 6, none⟩ = some (.iface 65 (.pointer (some ⟨E, 0, none⟩)))) (ht : w.cell? ⟨B, 16397, none⟩ = some (.slice none 0 0)) :
    Calls Tryd.prog 36 #[.pointer (some ⟨B, 0, none⟩), buf] w fun e w' => e = .returned (.tuple #[.int .i64 0, .iface 65 (.pointer (some ⟨E, 0, none⟩))]) ∧ Below w.heap.size w w' :=
  (read_err B E buf w h6 ht).mono fun _ _ ⟨he, k, hw⟩ => ⟨he, hw ▸ below_drewN (Below.refl _ w) k⟩

theorem Tryd.comp65 : (Tryd.prog.info? 65).map (·.comparable) = some true := by kernel_rfl
theorem Tryd.size67 : (Tryd.prog.info? 67).map (·.size) = some 1 := by kernel_rfl

/-- No byte and the code Bad; below the heap's size all is as it was. -/
def Refused (w : World) (e : Ending) (w' : World) : Prop := ∃ (a : Option Addr) (c : Nat), e = .returned (.tuple #[.slice a 0 c, .int .i64 1]) ∧ Below w.heap.size w w'

set_option maxHeartbeats 1000000 in
theorem unpack_bad (v : Value) (n : Nat) (k : Int) (b : Bool) (aE : Addr) (cE : Array Value) (tE : TypeId) (w : World) (hv : BytesIn v n w) (hk : k < 2 ∨ 8 < k)
    (hE : w.cell? ⟨0, 0, none⟩ = some (.iface 65 (.pointer (some aE)))) (hEb : w.heap[aE.block]? = some (.cells cE tE (0, 0))) (h0 : 0 < w.heap.size) :
    Calls Tryd.prog 4 #[v, .int .i64 k, .bool b, .slice none 0 0] w (Refused w) := by
  have HK : Hid (k < 2 ∨ 8 < k) := hk
  clear hk
  have HV : Hid (BytesIn v n w) := hv
  clear hv
  have HEb : Hid (w.heap[aE.block]? = some (.cells cE tE (0, 0))) := hEb
  clear hEb
  go_enter Tryd.func4, Tryd.ntmps4
  go_wp2_with fail
  refine (clone_any v n w HV.out).mono ?_
  rintro e w1 ⟨a1, n1, c1, rfl, hb1⟩
  go_wp2_with fail
  refine (bytesReader_any _ _ _ _).mono ?_
  rintro e w' ⟨rfl, rfl⟩
  go_wp2_with fail
  refine (order_any b _).mono ?_
  rintro e w' ⟨rfl, rfl⟩
  go_wp2_with fail
  refine (NewReader_bad _ _ _ _ (ordI_or b) HK.out).mono ?_
  rintro e w2 ⟨rfl, hb2, hm2⟩
  have hmk := make_buf
  have hmr := method_read
  rw [World.size_alloc] at hb2 hm2
  obtain ⟨hs, h6, ht, hx⟩ := hm2
  have h6' : ((w2.alloc (.cells #[] 5)).alloc (.cells BUF 5)).cell? ⟨w1.heap.size + 1, 6, none⟩ = some (.iface 65 (.pointer (some ⟨w1.heap.size + 1 + 1, 0, none⟩))) := by
    rw [World.cell?_alloc_past _ _ _ (by simp; omega), World.cell?_alloc_past _ _ _ (by omega)]; exact h6
  have ht' : ((w2.alloc (.cells #[] 5)).alloc (.cells BUF 5)).cell? ⟨w1.heap.size + 1, 16397, none⟩ = some (.slice none 0 0) := by
    rw [World.cell?_alloc_past _ _ _ (by simp; omega), World.cell?_alloc_past _ _ _ (by omega)]; exact ht
  clear h6 ht
  have HX : Hid (w2.heap[w1.heap.size + 1 + 1]? = some (.cells #[.string widthS] 67 (0, 0))) := hx
  clear hx
  go_wp2_with fail
  refine wp_loop_rounds 1 ?_
  rw [rounds_succ]
  go_wp2_with fail
  refine (read_below _ _ _ _ h6' ht').mono ?_
  rintro e w3 ⟨rfl, hb3⟩
  have hs1 := hb1.size
  have hlt : aE.block < w.heap.size := by
    rcases Nat.lt_or_ge aE.block w.heap.size with h | h
    · exact h
    · have he := HEb.out
      simp [Array.getElem?_eq_none h] at he
  have hw2 : Below w.heap.size w w2 := (hb1.alloc hs1 _).trans (hb2.mono (by omega))
  have hs2 := hw2.size
  have hw3 : Below w.heap.size w w3 := ((hw2.alloc hs2 _).alloc (by simp; omega) _).trans (hb3.mono (by simp; omega))
  have hE3 : w3.cell? ⟨0, 0, none⟩ = some (.iface 65 (.pointer (some aE))) := by rw [hw3.cell (p := ⟨0, 0, none⟩) h0]; exact hE
  have heq : (binOp .eql 37 (.iface 65 (.pointer (some ⟨w1.heap.size + 1 + 1, 0, none⟩))) (.iface 65 (.pointer (some aE)))).run Tryd.prog w3 = .ok (.bool false) w3 := by
    obtain ⟨i, hi, hcmp⟩ := Option.map_eq_some_iff.1 Tryd.comp65
    obtain ⟨j, hj, hjs⟩ := Option.map_eq_some_iff.1 Tryd.size67
    refine run_eql_iface_ptr_other w3 Tryd.underlying37 Tryd.underlying65 hi hcmp hj (by rw [hjs]; decide) (fun h => ?_) (ca := #[.string widthS]) (ta := 67) ?_ (cb := cE) (tb := tE) ?_
    · rw [← h] at hlt
      simp at hlt
      omega
    · rw [hb3.block _ (by simp; omega), Below.heap_alloc _ _ _ (by simp; omega), Below.heap_alloc _ _ _ (by omega)]
      exact HX.out
    · rw [hw3.block _ hlt]
      exact HEb.out
  clear hE hb1 hb2 hb3 h6' ht' hmr hmk hs1 hs2 hs hw2 hlt
  go_wp2
  go_ret2
  exact ⟨some ⟨w2.heap.size, 0, none⟩, 0, rfl, hw3⟩

end Go.Proofs.YthlhcfjpijilaaaDoor
