/- Contract of slices.Clone at []byte: whatever slice comes in, a slice comes back, and of what was there nothing has turned. -/
import Derived.Test.YthlhcfjpijilaaaDoorSmall
namespace Go.Proofs.YthlhcfjpijilaaaDoor
open Go.RowKit

/-- A slice comes back; below the heap's size all is as it was. -/
def Cloned (w : World) (e : Ending) (w' : World) : Prop := ∃ (a : Option Addr) (n c : Nat), e = .returned (.slice a n c) ∧ Below w.heap.size w w'

theorem Tryd.info5 : (Tryd.prog.info? 5).map (fun i => (i.zero, i.size, i.bytes)) = some (some (.int .u8 0), 1, 1) := by kernel_rfl

theorem form_of_own {w : World} {base : Nat} {e : TypeId} {size : Nat} {v : Value} {n : Nat} {xs : List Value} (h : w.ownsRow base e size v n xs) : ∃ (a : Option Addr) (n c : Nat), v = .slice a n c := by
  rcases h.2 with ⟨rfl, _⟩ | ⟨g, cap, cur, rfl, _⟩
  · exact ⟨_, _, _, rfl⟩
  · exact ⟨_, _, _, rfl⟩

set_option maxHeartbeats 1000000 in
theorem clone_some (a : Addr) (n c : Nat) (xs : List Int) (w : World) (hx : xs.length = n) (hbig : n ≤ 140737488355328) (hc : ∀ i, i < n → w.cell? (a.add i) = some (.int .u8 (xs.getD i 0))) :
    Calls Tryd.prog 7 #[.slice (some a) n c] w (Cloned w) := by
  obtain ⟨i0, hi, hz0, hz1, hz2⟩ := info_parts Tryd.info5
  have q22 : ∀ (w : World) (a : Option Addr) (n c n' c' : Nat), (binOp .eql 22 (.slice a n c) (.slice none n' c')).run Tryd.prog w = .ok (.bool a.isNone) w := fun w a n c n' c' => Lib.run_eql_slice_nil w _ _ a n c n' c' Tryd.underlying22
  have A : Hid (∀ i, i < n → w.cell? (a.add i) = some (.int .u8 (xs.getD i 0))) := hc
  clear hc
  have X : Hid (xs.length = n) := hx
  clear hx
  go_enter Tryd.func7, Tryd.ntmps7
  go_wp2_with (at_builtin; refine wpList_append_own _ rfl _ _ 22 rfl w.heap.size 5 i0 (.int .u8 0) 1 1 Tryd.underlying22 hi hz0 hz1 hz2 rfl (by decide) _ _ _ rfl (World.ownsRow_made w #[] 0 (Nat.le_refl _) (Nat.zero_le _) rfl) a n c (xs.map (Value.int .u8)) rfl ?qc1 ?qc2 ?qc3 ?qc4 ?qc5 ?qc6 ?_)
  case qc1 => simp [X.out]
  case qc2 =>
    intro j u hj
    have hx := X.out
    have hjn : j < n := by
      have := (List.getElem?_eq_some_iff.1 hj).1
      simp at this
      omega
    refine Lib.cell?_alloc_some _ ?_
    rw [A.out j hjn]
    have e : (xs.map (Value.int .u8))[j]? = some (Value.int .u8 (xs.getD j 0)) := by simp [List.getD, List.getElem?_eq_getElem (show j < xs.length by omega)]
    rw [e] at hj
    exact hj
  case qc3 => intro u hu; obtain ⟨x, _, rfl⟩ := List.mem_map.1 hu; rfl
  case qc4 => unfold maxLen; omega
  case qc5 => omega
  case qc6 => simp
  intro v' w1 hown hgrow hnil
  have hbel : Below w.heap.size w w1 := ((Below.refl _ w).alloc (Nat.le_refl _) _).grown hgrow (by simp) (by intro k hk; simp [Value.ownBlock] at hk; omega)
  have hf := form_of_own hown
  clear hown hgrow hnil
  go_wp2
  go_ret
  obtain ⟨a', n', c', rfl⟩ := hf
  exact ⟨a', n', c', rfl, hbel⟩

set_option maxHeartbeats 400000 in
theorem clone_nil (n c : Nat) (w : World) :
    Calls Tryd.prog 7 #[.slice none n c] w fun e w' => e = .returned (.slice none 0 0) ∧ w = w' := by
  have q22 : ∀ (w : World) (a : Option Addr) (n c n' c' : Nat), (binOp .eql 22 (.slice a n c) (.slice none n' c')).run Tryd.prog w = .ok (.bool a.isNone) w := fun w a n c n' c' => Lib.run_eql_slice_nil w _ _ a n c n' c' Tryd.underlying22
  go_enter Tryd.func7, Tryd.ntmps7
  go_wp2
  go_ret
  exact ⟨rfl, rfl⟩

/-- WHAT A []byte THAT COMES IN IS TO THE CALL: nil, or n bytes at an address. -/
def BytesIn (v : Value) (n : Nat) (w : World) : Prop :=
  (∃ c, v = .slice none n c) ∨ ∃ (a : Addr) (c : Nat) (xs : List Int), v = .slice (some a) n c ∧ xs.length = n ∧ n ≤ 140737488355328 ∧ ∀ i, i < n → w.cell? (a.add i) = some (.int .u8 (xs.getD i 0))

theorem clone_any (v : Value) (n : Nat) (w : World) (h : BytesIn v n w) : Calls Tryd.prog 7 #[v] w (Cloned w) := by
  rcases h with ⟨c, rfl⟩ | ⟨a, c, xs, rfl, hx, hbig, hc⟩
  · exact (clone_nil n c w).mono fun e w' ⟨he, hw⟩ => ⟨none, 0, 0, he, hw ▸ Below.refl _ _⟩
  · exact clone_some a n c xs w hx hbig hc

end Go.Proofs.YthlhcfjpijilaaaDoor
