import Derived.Test.Qxb6612554aEndB
namespace Go.Proofs.Qxb6612554a
open Go.ChangeShapes Go.WideShapes Go.ChangeAt Go.RowKit
set_option linter.unusedVariables false
attribute [local go_sem ↓] Go.wp_at_zero Go.wp_at_succ

/-- The record behind 'Failed'. -/
def failedRec (r : Rec) (now : Int) : Rec := { failR r now with la := now }
/-- Is the key released by 'Close'? -/
abbrev idle (r : Rec) : Prop := r.f = 0 ∧ wrap64 (r.fl - 1) = 0
/-- The record behind 'Close'. -/
def closedRec (r : Rec) (now : Int) : Rec := if idle r then closeR r else { closeR r with la := now }
/-- The keys behind 'Close'. -/
def closedOrd (r : Rec) (i : Nat) (ord : List Nat) : List Nat := if idle r then ord.erase i else ord.erase i ++ [i]

section
variable {w : World} {D : LD} {ord : List Nat}
theorem Failed_lim {ba i : Nat} (h : Lim w D ord) (hmu : D.mu = 0) (ha : Att w D ba i false) (hi : i ∈ ord) (hpos : 0 ≤ (D.fd i).f) :
    Calls Try.prog 26 #[Ptr ba] w fun e w' => e = .returned (.tuple #[]) ∧ 
      (Lim w' (D.put i (failedRec (D.fd i) D.now)) (ord.erase i ++ [i]) ∧ Att w' (D.put i (failedRec (D.fd i) D.now)) ba i true ∧ Fr (U D ba) w w') := by
  have hC := end_failed h hmu ha hi hpos
  clear h ha
  go_enter Try.func26, Try.ntmps26
  go_wp2_with fail
  refine hC.mono ?_
  rintro e w1 ⟨rfl, hq⟩
  go_wp2
  go_end0
  exact ⟨rfl, hq⟩
theorem end_close {ba i : Nat} (h : Lim w D ord) (hmu : D.mu = 0) (ha : Att w D ba i false) (hi : i ∈ ord) :
    Calls Try.prog 44 #[Ptr ba, .int .i64 0] w fun e w' => e = .returned (.tuple #[]) ∧ 
      (Lim w' (D.put i (closedRec (D.fd i) D.now)) (closedOrd (D.fd i) i ord) ∧ Att w' (D.put i (closedRec (D.fd i) D.now)) ba i true ∧ Fr (U D ba) w w') := by
  unfold closedRec closedOrd
  by_cases hz : idle (D.fd i)
  · rw [if_pos hz, if_pos hz]
    exact end_dropped h hmu ha hi hz.1 hz.2
  · rw [if_neg hz, if_neg hz]
    exact end_closed h hmu ha hi hz
theorem Close_lim {ba i : Nat} (h : Lim w D ord) (hmu : D.mu = 0) (ha : Att w D ba i false) (hi : i ∈ ord) :
    Calls Try.prog 28 #[Ptr ba] w fun e w' => e = .returned (.tuple #[]) ∧ 
      (Lim w' (D.put i (closedRec (D.fd i) D.now)) (closedOrd (D.fd i) i ord) ∧ Att w' (D.put i (closedRec (D.fd i) D.now)) ba i true ∧ Fr (U D ba) w w') := by
  have hC := end_close h hmu ha hi
  clear h ha
  go_enter Try.func28, Try.ntmps28
  go_wp2_with fail
  refine hC.mono ?_
  rintro e w1 ⟨rfl, hq⟩
  go_wp2
  go_end0
  exact ⟨rfl, hq⟩
theorem Failed_done {ba i : Nat} (ha : Att w D ba i true) : Calls Try.prog 26 #[Ptr ba] w fun e w' => e = .returned (.tuple #[]) ∧ w' = w := by
  have hC := end_done ha 2
  clear ha
  go_enter Try.func26, Try.ntmps26
  go_wp2_with fail
  refine hC.mono ?_
  rintro e w1 ⟨rfl, rfl⟩
  go_wp2
  go_end0
  exact ⟨rfl, rfl⟩
theorem Close_done {ba i : Nat} (ha : Att w D ba i true) : Calls Try.prog 28 #[Ptr ba] w fun e w' => e = .returned (.tuple #[]) ∧ w' = w := by
  have hC := end_done ha 0
  clear ha
  go_enter Try.func28, Try.ntmps28
  go_wp2_with fail
  refine hC.mono ?_
  rintro e w1 ⟨rfl, rfl⟩
  go_wp2
  go_end0
  exact ⟨rfl, rfl⟩
theorem ZZAttempt_lim (h : Lim w D ord) (i : Nat) : Calls Try.prog 25 #[Ptr D.bl, Ptr (D.E i)] w fun e w' => e = .returned (Ptr w.heap.size) ∧ Att w' D w.heap.size i false ∧ Below w.heap.size w w' := by
  have hout : ¬ D.blk w.heap.size := fun hb => absurd (h.blk_lt hb) (Nat.lt_irrefl _)
  clear h
  go_enter Try.func25, Try.ntmps25
  go_wp2
  go_ret
  exact ⟨rfl, ⟨heap_alloc_new w _, hout⟩, (Below.refl _ _).alloc (Nat.le_refl _) _⟩
theorem ZZEnded_lim {ba i : Nat} {b : Bool} (ha : Att w D ba i b) : Calls Try.prog 27 #[Ptr ba] w fun e w' => e = .returned (.bool b) ∧ w' = w := by
  have c2 : w.cell? ⟨ba, 2, none⟩ = some (.bool b) := cell_of_block ha.blk 2
  clear ha
  go_enter Try.func27, Try.ntmps27
  go_wp2
  go_ret
  exact ⟨rfl, rfl⟩

set_option maxRecDepth 20000 in
set_option maxHeartbeats 800000 in
theorem ZZHasKey_lim (h : Lim w D ord) {i : Nat} (hi : i < 1000000) : Calls Try.prog 35 #[Ptr D.bl, kv i] w fun e w' => e = .returned (.bool (decide (i ∈ ord))) ∧ Below w.heap.size w w' := by
  have h' : Lim (w.alloc (.cells (kl i).toArray 49)) D ord := h.below ((Below.refl _ _).alloc (Nat.le_refl _) _)
  have H0 : Hid ((w.alloc (.cells (kl i).toArray 49)).drew.cell? ⟨D.bl, 3, none⟩ = some (.map (some D.bm)) ∧ (w.alloc (.cells (kl i).toArray 49)).drew.rangeAt w.heap.size 0 (kl i) ∧
      (Instr.lookup 88 (.map (some D.bm)) (.agg (kl i).toArray) true).run Try.prog (w.alloc (.cells (kl i).toArray 49)).drew = .ok (.tuple #[if i ∈ ord then Ptr (D.E i) else .pointer none, .bool (decide (i ∈ ord))]) (w.alloc (.cells (kl i).toArray 49)).drew) := by
    have h'' := h'.sim (Sim.drew _)
    exact ⟨h''.c3, range_of_block (heap_alloc_new w _), (h''.look hi).2⟩
  clear h h'
  generalize (if i ∈ ord then Ptr (D.E i) else .pointer none) = v at *
  generalize decide (i ∈ ord) = b at *
  go_enter Try.func35, Try.ntmps35
  go_wp2
  have hu := Try.underlying49
  have hi49 : (Try.prog.info? 49).map (·.size) = some (kl i).length := by rw [kl_length]; exact size49
  have hl32 := kl_length i
  have h1c := kl_one i
  go_region_held3 (fun w' => w'.cell? ⟨D.bl, 3, none⟩ = some (.map (some D.bm)) ∧ w'.rangeAt w.heap.size 0 (kl i) ∧ (Instr.lookup 88 (.map (some D.bm)) (.agg (kl i).toArray) true).run Try.prog w' = .ok (.tuple #[v, .bool b]) w')
    (first | exact H0.out | assumption) (fail)
  go_wp2
  go_ret
  exact ⟨rfl, ((Below.refl _ _).alloc (Nat.le_refl _) _).drew⟩
end
end Go.Proofs.Qxb6612554a
