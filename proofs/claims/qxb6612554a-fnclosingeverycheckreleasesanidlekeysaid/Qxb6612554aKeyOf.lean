import Derived.Test.Qxb6612554aLists
import Derived.Deep.MidRow
import Derived.WalkLawsBesides
namespace Go.Proofs.Qxb6612554a
open Go.ChangeShapes Go.WideShapes Go.ChangeAt Go.RowKit
set_option linter.unusedVariables false

/-- The k-th byte of a key. -/
def kb (i k : Nat) : Int := (i : Int) / 2 ^ (8 * k) % 256
/-- The key's cells after k rounds. -/
def kr (i k : Nat) : List Value := (List.range 32).map fun j => .int .u8 (if j < k then kb i j else 0)
/-- THE KEY's 32 CELLS. -/
def kl (i : Nat) : List Value := (kr i 8).set 31 (.int .u8 165)
theorem kr_length (i k : Nat) : (kr i k).length = 32 := by simp [kr]
theorem kl_length (i : Nat) : (kl i).length = 32 := by simp [kl, kr_length]
theorem kl_size (i : Nat) : (kl i).toArray.size = 32 := by rw [List.size_toArray, kl_length]
theorem kr_get (i k j : Nat) (hj : j < 32) : (kr i k)[j]? = some (.int .u8 (if j < k then kb i j else 0)) := by simp [kr, hj]
theorem kr_zero (i : Nat) : kr i 0 = List.replicate 32 (.int .u8 0) := by
  apply List.ext_getElem?
  intro j
  by_cases hj : j < 32
  · rw [kr_get _ _ _ hj, List.getElem?_replicate, if_pos hj]; simp
  · rw [List.getElem?_eq_none (by rw [kr_length]; omega), List.getElem?_eq_none (by simp; omega)]
theorem kr_step (i k : Nat) (hk : k < 32) : (kr i k).toArray.setIfInBounds k (.int .u8 ((i : Int) / 2 ^ (8 * k) % 256)) = (kr i (k + 1)).toArray := by
  rw [List.setIfInBounds_toArray]
  congr 1
  apply List.ext_getElem?
  intro j
  rw [List.getElem?_set]
  by_cases hj : j < 32
  · rw [kr_get _ _ _ hj, kr_get _ _ _ hj]
    by_cases e : k = j
    · subst e
      simp [kr_length, hj, kb]
    · simp only [e, if_false]
      have : (j < k) = (j < k + 1) := by apply propext; omega
      simp only [this]
  · rw [List.getElem?_eq_none (l := kr i (k + 1)) (by rw [kr_length]; omega)]
    have : ¬ k = j := by omega
    simp only [this, if_false]
    exact List.getElem?_eq_none (by rw [kr_length]; omega)
theorem kl_one (i : Nat) : ∀ v ∈ kl i, v.oneCell' = true := by
  intro v hv
  have hv' := List.mem_or_eq_of_mem_set hv
  rcases hv' with h | rfl
  · simp only [kr, List.mem_map] at h
    obtain ⟨j, _, rfl⟩ := h
    rfl
  · rfl
theorem size49 : (Try.prog.info? 49).map (·.size) = some 32 := by kernel_rfl

theorem range_of_block {w : World} {b : Nat} {cs : List Value} {t : TypeId} {f : Nat × Nat} (h : w.heap[b]? = some (.cells cs.toArray t f)) : w.rangeAt b 0 cs := by
  intro j v hv
  rw [Nat.zero_add, cell_of_block h]
  simpa using hv
theorem there_of_block {w : World} {b n : Nat} {c : Array Value} {t : TypeId} (h : w.heap[b]? = some (.cells c t (0, 0))) (hn : n ≤ c.size) : w.there b 0 n := by
  intro j hj
  rw [Nat.zero_add, cell_of_block h, frozen_of_block h]
  refine ⟨?_, rfl⟩
  rw [Array.getElem?_eq_getElem (by omega)]
  rfl

theorem below_setCells {B : Nat} {a w : World} (h : Below B a w) {b : Nat} (hb : B ≤ b) (vs : List Value) : ∀ o, Below B a (w.setCells b o vs) := by
  induction vs generalizing w with
  | nil => intro o; exact h
  | cons v vs ih => intro o; exact ih (h.setCell hb v) (o + 1)
/-- One result that lies in memory. -/
theorem results_cell {fn : Func} {p : Tmp} {ty : TypeId} (h : fn.results = #[.cell p ty]) {tmps : Array Value} {a : Addr} (ha : tmps.getD p undef = .pointer (some a)) {P : Program} {w : World} {v : Value}
    (hl : (loadVar ty a).run P w = .ok v w) : (results fn tmps).run P w = .ok v w := by
  have ha' : tmps[p]?.getD undef = .pointer (some a) := by rw [← ha]; simp
  simp only [results, h]
  simp [asAddr, ha', hl]

set_option maxHeartbeats 1000000 in
/-- 'keyOf(i)' -/
theorem keyOf_any (i : Nat) (hi : i < 1000000) (w : World) :
    Calls Try.prog 31 #[.int .i64 i] w fun e w' => e = .returned (.agg (kl i).toArray) ∧ Below w.heap.size w w' := by
  have hz : (kr i 0).toArray = #[.int .u8 0, .int .u8 0, .int .u8 0, .int .u8 0, .int .u8 0, .int .u8 0, .int .u8 0, .int .u8 0, .int .u8 0, .int .u8 0, .int .u8 0, .int .u8 0, .int .u8 0, .int .u8 0, .int .u8 0, .int .u8 0,
     .int .u8 0, .int .u8 0, .int .u8 0, .int .u8 0, .int .u8 0, .int .u8 0, .int .u8 0, .int .u8 0, .int .u8 0, .int .u8 0, .int .u8 0, .int .u8 0, .int .u8 0, .int .u8 0, .int .u8 0, .int .u8 0] := by rw [kr_zero]; rfl
  have HZ : Hid _ := hz
  clear hz
  go_enter Try.func31, Try.ntmps31
  go_wp2
  go_loopw [5] (fun b wr => ∃ k : Nat, k ≤ 8 ∧ b = .int .i64 k ∧ wr.heap[w.heap.size+1]? = some (.cells (kr i k).toArray 49 (0,0)) ∧ wr.heap[w.heap.size]? = some (.cells (kr i 0).toArray 49 (0,0)) ∧ Below w.heap.size w wr)
    (fun b _ => 8 - (intOf b).toNat)
  case atStart => 
    refine ⟨0, by omega, rfl, ?_, ?_, ((Below.refl _ _).alloc (Nat.le_refl _) _).alloc (by simp) _⟩
    · rw [HZ.out]
      have := heap_alloc_new (w.alloc (.cells #[.int .u8 0, .int .u8 0, .int .u8 0, .int .u8 0, .int .u8 0, .int .u8 0, .int .u8 0, .int .u8 0, .int .u8 0, .int .u8 0, .int .u8 0, .int .u8 0, .int .u8 0, .int .u8 0, .int .u8 0, .int .u8 0,
       .int .u8 0, .int .u8 0, .int .u8 0, .int .u8 0, .int .u8 0, .int .u8 0, .int .u8 0, .int .u8 0, .int .u8 0, .int .u8 0, .int .u8 0, .int .u8 0, .int .u8 0, .int .u8 0, .int .u8 0, .int .u8 0] 49)) (.cells #[.int .u8 0, .int .u8 0, .int .u8 0, .int .u8 0, .int .u8 0, .int .u8 0, .int .u8 0, .int .u8 0, .int .u8 0, .int .u8 0, .int .u8 0, .int .u8 0, .int .u8 0, .int .u8 0, .int .u8 0, .int .u8 0,
       .int .u8 0, .int .u8 0, .int .u8 0, .int .u8 0, .int .u8 0, .int .u8 0, .int .u8 0, .int .u8 0, .int .u8 0, .int .u8 0, .int .u8 0, .int .u8 0, .int .u8 0, .int .u8 0, .int .u8 0, .int .u8 0] 49)
      rw [World.size_alloc] at this
      exact this
    · rw [HZ.out, Below.heap_alloc _ _ _ (by simp)]
      exact heap_alloc_new _ _
  case round =>
    obtain ⟨k, hk, rfl, h1, h0, hB⟩ := hrel
    by_cases hlt : k < 8
    · have hc : wr.cell? ⟨w.heap.size+1, k, none⟩ = some (.int .u8 0) := by
        rw [cell_of_block h1]
        have := kr_get i k k (by omega)
        simpa using this
      have hf : wr.frozen? ⟨w.heap.size+1, k, none⟩ = false := frozen_of_block h1 k
      have H1 : Hid _ := h1
      have H0 : Hid _ := h0
      clear h1 h0
      go_wp2
      go_roundw
      case rel =>
        refine ⟨k + 1, by omega, by go_num, ?_, ?_, hB.setCell (by simp) _⟩
        · rw [heap_setCell_at H1.out, kr_step _ _ (by omega)]
        · rw [heap_setCell_far (by omega)]; exact H0.out
      case measure => simp [intOf]; omega
    · obtain rfl : k = 8 := by omega
      have hc : wr.cell? ⟨w.heap.size+1, 31, none⟩ = some (.int .u8 0) := by
        rw [cell_of_block h1]
        have := kr_get i 8 31 (by omega)
        simpa using this
      have hf : wr.frozen? ⟨w.heap.size+1, 31, none⟩ = false := frozen_of_block h1 31
      have g1 : (wr.setCell ⟨w.heap.size+1, 31, none⟩ (.int .u8 165)).heap[w.heap.size+1]? = some (.cells (kl i).toArray 49 (0,0)) := by
        rw [heap_setCell_at h1, List.setIfInBounds_toArray]; rfl
      have g0 : (wr.setCell ⟨w.heap.size+1, 31, none⟩ (.int .u8 165)).heap[w.heap.size]? = some (.cells (kr i 0).toArray 49 (0,0)) := by
        rw [heap_setCell_far (by omega)]; exact h0
      have hr : Hid ((wr.setCell ⟨w.heap.size+1, 31, none⟩ (.int .u8 165)).rangeAt (w.heap.size + 1) 0 (kl i)) := range_of_block g1
      have ht : Hid ((wr.setCell ⟨w.heap.size+1, 31, none⟩ (.int .u8 165)).there w.heap.size 0 32) := there_of_block g0 (by simp [kr_length])
      clear h1 h0 g1 g0
      go_wp2_with (first
        | (refine wpList_load_mid rfl 49 _ rfl (w.heap.size + 1) 0 rfl (kl i) _ hr.out Try.underlying49 rfl (by rw [kl_length]; exact size49) ?_)
        | (refine wpList_store_mid (by rfl) 49 (.tmp 2) (.tmp 21) (by rfl) w.heap.size 0 (kl i).toArray (by rfl) (by rfl) ?_ (by rw [kl_size]; exact size49) (all_oneCell_toArray (kl_one i)) ?_; (rw [kl_size]; exact ht.out)))
      exact bodyPost_ret (v := .agg (kl i).toArray) (results_cell Try.results31 rfl (run_loadVar_mid _ _ _ 49 (kl i) _ (World.rangeAt_setCells_same _ _ _ _ (by rw [kl_length]; exact ht.out)) Try.underlying49 rfl (by rw [kl_length]; exact size49))) rfl
        ⟨rfl, below_setCells (hB.setCell (by simp) _) (Nat.le_refl _) _ _⟩
end Go.Proofs.Qxb6612554a
