import Derived.Test.Qxb6612554aDrop
import Derived.Laws.EntriesVeiled
namespace Go.Proofs.Qxb6612554a
open Go.ChangeShapes Go.WideShapes Go.ChangeAt Go.RowKit
set_option linter.unusedVariables false
attribute [local go_sem ↓] Go.wp_at_zero Go.wp_at_succ

theorem ZZDrop_lim {w : World} {D : LD} {ord : List Nat} (h : Lim w D ord) {i : Nat} (hi : i < D.n) :
    Calls Try.prog 20 #[Ptr D.bl, Ptr (D.E i)] w fun e w' => e = .returned (.tuple #[]) ∧ Lim w' D (ord.erase i) ∧ Fr D.blk w w' := by
  have hC := drop_lim h hi
  clear h
  go_enter Try.func20, Try.ntmps20
  go_wp2_with fail
  refine hC.mono ?_
  rintro e w1 ⟨rfl, hL, hF⟩
  go_wp2
  go_end0
  exact ⟨rfl, hL, hF⟩

set_option maxHeartbeats 800000 in
theorem New_lim (w : World) (B bt : Nat) (now : Int) (hn : In64 now) (hclk : w.heap[bt]? = some (.cells (tm now) 63 (0, 0))) (hB : B ≤ bt) (hB' : B ≤ w.heap.size) :
    Calls Try.prog 54 #[.func (.func 55) #[] #[Ptr bt]] w fun e w' => ∃ D : LD, e = .returned (Ptr D.bl) ∧ Lim w' D [] ∧ D.n = 0 ∧ D.B = B ∧ (D.now = now ∧ D.mu = 0) ∧ Below w.heap.size w w' := by
  have hmm := @run_makeMap Try.prog
  have hC := New_lst (w.alloc (.map #[] 0)) (fun _ => 0) (Vof (fun _ => 0)) rfl
  rw [World.size_alloc] at hC
  have HC : Hid _ := hclk
  clear hclk
  go_enter Try.func54, Try.ntmps54
  go_wp2_with fail
  refine hC.mono ?_
  rintro e w1 ⟨rfl, hL, hb, hsz⟩
  clear hC
  go_wp2
  go_ret
  have h0 : w1.heap[w.heap.size]? = some (.map #[] 0) := by rw [hb.block _ (by omega)]; exact heap_alloc_new _ _
  have hb0 : Below w.heap.size w w1 := ((Below.refl w.heap.size w).alloc (Nat.le_refl _) (.map #[] 0)).trans (hb.mono (by omega))
  have hbt := lt_of_heap HC.out
  have ht : w1.heap[bt]? = some (.cells (tm now) 63 (0, 0)) := by rw [hb0.block _ hbt]; exact HC.out
  have old : ∀ {o : Obj} {k : Nat}, k < w1.heap.size → (w1.alloc o).heap[k]? = w1.heap[k]? := fun hk => Below.heap_alloc _ _ _ hk
  have hF : ∀ o, Fr (fun _ => False) w1 (w1.alloc o) := fun o => Fr.alloc _ w1 o
  refine ⟨⟨B, w1.heap.size, w.heap.size, w.heap.size + 1, bt, fun _ => 0, fun _ => 0, 0, fun _ => ⟨0, 0, 0, 0⟩, now, 0⟩, rfl, ⟨heap_alloc_new _ _, ?_, ?_, ⟨#[], 0, [], ?_, rfl, List.nodup_nil, fun i => Iff.rfl⟩, fun i hi => by simp at hi, fun i j hi => by simp at hi, by simp, ?_, ?_, fun i hi => by simp at hi, hn⟩, rfl, rfl, ⟨rfl, rfl⟩, ?_⟩
  · rw [old (show bt < w1.heap.size by omega)]; exact ht
  · exact hL.fr (hF _) (fun h => h) (fun i hi => by simp at hi)
  · rw [old (show w.heap.size < w1.heap.size by omega)]; exact h0
  · intro k hk
    rcases hk with rfl | rfl | rfl | (rfl | ⟨j, hj, rfl⟩) | ⟨j, hj, rfl⟩
    · simp; omega
    · exact hB'
    · exact hB
    · simp; omega
    · simp at hj
    · simp at hj
  · simp; omega
  · exact hb0.alloc (by omega) _

set_option maxHeartbeats 800000 in
theorem ZZNew_lim (w : World) (now : Int) (hn : In64 now) :
    Calls Try.prog 38 #[.int .i64 now] w fun e w' => ∃ D : LD, e = .returned (Ptr D.bl) ∧ Lim w' D [] ∧ D.n = 0 ∧ D.B = w.heap.size ∧ (D.now = now ∧ D.mu = 0) ∧ Below w.heap.size w w' := by
  have hA := add_any now hn
  unfold tm at hA
  go_enter Try.func38, Try.ntmps38
  go_wp2_with fail
  refine (hA _).mono ?_
  rintro e w1 ⟨rfl, hb⟩
  go_wp2_with fail
  refine (New_lim (w1.alloc (.cells (tm now) 63)) w.heap.size w1.heap.size now hn (heap_alloc_new _ _) hb.size (by have := hb.size; simp; omega)).mono ?_
  rintro e w2 ⟨D, rfl, hL, h1, h2, h3, hb2⟩
  go_wp2
  go_ret
  exact ⟨D, rfl, hL, h1, h2, h3, (hb.alloc hb.size _).trans (hb2.mono (by have := hb.size; simp; omega))⟩
end Go.Proofs.Qxb6612554a
