import Derived.Test.Qxb6612554aEndC
import Derived.Test.Qxb6612554aLawDrop
namespace Go.Proofs.Qxb6612554a
open Go.ChangeShapes Go.WideShapes Go.ChangeAt Go.RowKit
set_option linter.unusedVariables false

set_option maxHeartbeats 400000 in
theorem zzBytes22 (w : World) (a0 : Option Addr) (n c0 : Nat) (z now : Int) (hn : n ≤ maxLen) :
    Calls Try.prog 22 #[.slice a0 n c0, .int .i64 z, .int .i64 now] w fun e w' => (e = .returned (.bool true) ∨ e = .returned (.bool false)) ∧ w' = w := by
  unfold maxLen at hn
  go_enter Try.func22, Try.ntmps22
  go_wp2
  all_goals (go_ret; first | exact ⟨Or.inl rfl, rfl⟩ | exact ⟨Or.inr rfl, rfl⟩)
set_option maxHeartbeats 400000 in
theorem zzBytes29 (w : World) (a0 : Option Addr) (n c0 : Nat) (z now : Int) (hn : n ≤ maxLen) :
    Calls Try.prog 29 #[.slice a0 n c0, .int .i64 z, .int .i64 now] w fun e w' => (e = .returned (.bool true) ∨ e = .returned (.bool false)) ∧ w' = w := by
  unfold maxLen at hn
  go_enter Try.func29, Try.ntmps29
  go_wp2
  all_goals (go_ret; first | exact ⟨Or.inl rfl, rfl⟩ | exact ⟨Or.inr rfl, rfl⟩)
set_option maxHeartbeats 400000 in
theorem zzBytes32 (w : World) (a0 : Option Addr) (n c0 : Nat) (z now : Int) (hn : n ≤ maxLen) :
    Calls Try.prog 32 #[.slice a0 n c0, .int .i64 z, .int .i64 now] w fun e w' => (e = .returned (.bool true) ∨ e = .returned (.bool false)) ∧ w' = w := by
  unfold maxLen at hn
  go_enter Try.func32, Try.ntmps32
  go_wp2
  all_goals (go_ret; first | exact ⟨Or.inl rfl, rfl⟩ | exact ⟨Or.inr rfl, rfl⟩)
set_option maxHeartbeats 400000 in
theorem zzBytes34 (w : World) (a0 : Option Addr) (n c0 : Nat) (z k now : Int) (hn : n ≤ maxLen) :
    Calls Try.prog 34 #[.slice a0 n c0, .int .i64 z, .int .i64 k, .int .i64 now] w fun e w' => (e = .returned (.bool true) ∨ e = .returned (.bool false)) ∧ w' = w := by
  unfold maxLen at hn
  go_enter Try.func34, Try.ntmps34
  go_wp2
  all_goals (go_ret; first | exact ⟨Or.inl rfl, rfl⟩ | exact ⟨Or.inr rfl, rfl⟩)

/-- What 'end' turns lies above. -/
theorem end_below {D : LD} {ord : List Nat} {w3 w4 : World} {ba B : Nat} (hL : Lim w3 D ord) (hB : D.B = B) (hba : B ≤ ba) (hF : Fr (U D ba) w3 w4) : Below B w3 w4 :=
  hF.below (by rw [← hB]; exact hL.top) (fun k hk => by
    rcases hk with hk | rfl
    · rw [← hB]; exact hL.lo k hk
    · exact hba)

/-- All but i. -/
def butI (n i : Nat) : List Nat := (List.range n).erase i
theorem butI_filter (n i : Nat) : butI n i = (List.range n).filter (fun j => j != i) := by
  unfold butI
  rw [List.nodup_range.erase_eq_filter]
theorem butI_length {n i : Nat} (hi : i < n) : (butI n i).length = n - 1 := by
  unfold butI
  rw [List.length_erase_of_mem (by simpa using hi)]
  simp
theorem butI_mem {n i j : Nat} (h : j ∈ butI n i) : j < n ∧ j ≠ i := by
  rw [butI_filter] at h
  have := List.mem_filter.1 h
  exact ⟨by simpa using this.1, by simpa using this.2⟩
theorem els_cell {w : World} {g n i : Nat} {E : Nat → Nat} (h : w.heap[g]? = some (.cells (elsRow E n n).toArray 37 (0, 0))) (hi : i < n) : w.cell? ⟨g, i, none⟩ = some (Ptr (E i)) := by
  rw [cell_of_block h]
  have := elsRow_get E n n i hi
  simpa [hi] using this
end Go.Proofs.Qxb6612554a
