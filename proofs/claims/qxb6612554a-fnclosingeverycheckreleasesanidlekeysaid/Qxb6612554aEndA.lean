import Derived.Test.Qxb6612554aNew
import Derived.Test.Qxb6612554aLocks
namespace Go.Proofs.Qxb6612554a
open Go.ChangeShapes Go.WideShapes Go.ChangeAt Go.RowKit
set_option linter.unusedVariables false
attribute [local go_sem ↓] Go.wp_at_zero Go.wp_at_succ

/-- Another record for the key i. -/
def LD.put (D : LD) (i : Nat) (r : Rec) : LD := { D with fd := fun j => if j = i then r else D.fd j }
/-- The lock's state. -/
def LD.setMu (D : LD) (m : Int) : LD := { D with mu := m }

section
variable {w : World} {D : LD} {ord : List Nat}

theorem put_at (D : LD) (i : Nat) (r : Rec) : (D.put i r).fd i = r := by simp [LD.put]
theorem put_far (D : LD) {i j : Nat} (r : Rec) (h : j ≠ i) : (D.put i r).fd j = D.fd j := by simp [LD.put, h]

theorem Lim.noBl (h : Lim w D ord) : ¬ LB D.bL D.E D.n D.bl := by
  obtain ⟨nx, pv, lv, hN, _⟩ := h.lst
  rintro (e | ⟨j, hj, e⟩)
  · exact block_ne h.lim hN.root (by decide) e
  · exact block_ne h.lim (hN.el j hj) (by decide) e
theorem Lim.noN (h : Lim w D ord) {i : Nat} (hi : i < D.n) : ¬ LB D.bL D.E D.n (D.N i) := by
  obtain ⟨nx, pv, lv, hN, _⟩ := h.lst
  rintro (e | ⟨j, hj, e⟩)
  · exact block_ne (h.ent i hi) hN.root (by decide) e
  · exact block_ne (h.ent i hi) (hN.el j hj) (by decide) e

theorem Lim.relock (h : Lim w D ord) (m : Int) : Lim (w.setCell ⟨D.bl, 1, none⟩ (.int .i32 m)) (D.setMu m) ord := by
  obtain ⟨es0, ck0, ks0, hb0, hm0⟩ := h.mp
  have hF : Fr (fun k => k = D.bl) w (w.setCell ⟨D.bl, 1, none⟩ (.int .i32 m)) := Fr.setCell (S := fun k => k = D.bl) w (a := ⟨D.bl, 1, none⟩) rfl (.int .i32 m)
  have far : ∀ {k : Nat}, k ≠ D.bl → (w.setCell ⟨D.bl, 1, none⟩ (.int .i32 m)).heap[k]? = w.heap[k]? := fun hk => heap_setCell_far hk _
  refine ⟨?_, ?_, ?_, ⟨es0, ck0, ks0, ?_, hm0⟩, fun i hi => ?_, h.inj, h.small, h.lo, Nat.le_trans h.top hF.size, h.fdok, h.nowok⟩
  · exact heap_setCell_at h.lim _
  · show _ = _; exact (far (block_ne h.clk h.lim (by decide))).trans h.clk
  · exact h.lst.fr hF (fun e => h.noBl (Or.inl e.symm)) (fun i hi e => h.noBl (Or.inr ⟨i, hi, e.symm⟩))
  · exact (far (fun e => map_ne hb0 h.lim e.symm)).trans hb0
  · exact (far (block_ne (h.ent i hi) h.lim (by decide))).trans (h.ent i hi)

/-- An entry written: the rest as it was. -/
theorem Lim.putW {w' : World} (h : Lim w D ord) {i : Nat} (hi : i < D.n) {r : Rec} (hr : r.ok) (hb : w'.heap[D.N i]? = some (.cells (entC i r).toArray 94 (0, 0))) (hF : Fr (fun k => k = D.N i) w w') :
    Lim w' (D.put i r) ord := by
  obtain ⟨es0, ck0, ks0, hb0, hm0⟩ := h.mp
  have far : ∀ {k : Nat}, D.blk k → k ≠ D.N i → w'.heap[k]? = w.heap[k]? := fun hk hn => hF.block _ (h.blk_lt hk) hn
  refine ⟨?_, ?_, ?_, ⟨es0, ck0, ks0, ?_, hm0⟩, fun j hj => ?_, h.inj, h.small, h.lo, Nat.le_trans h.top hF.size, fun j hj => ?_, h.nowok⟩
  · exact (far (Or.inl rfl) (block_ne h.lim (h.ent i hi) (by decide))).trans h.lim
  · exact (far (Or.inr (Or.inr (Or.inl rfl))) (block_ne h.clk (h.ent i hi) (by decide))).trans h.clk
  · exact h.lst.fr hF (fun e => h.noN hi (Or.inl e.symm)) (fun j hj e => h.noN hi (Or.inr ⟨j, hj, e.symm⟩))
  · exact (far (Or.inr (Or.inl rfl)) (fun e => map_ne hb0 (h.ent i hi) e.symm)).trans hb0
  · by_cases e : j = i
    · subst e; rw [put_at]; exact hb
    · rw [put_far _ _ e]
      exact (far (Or.inr (Or.inr (Or.inr (Or.inr ⟨j, hj, rfl⟩)))) (fun e' => e (h.inj _ _ hj hi e'))).trans (h.ent j hj)
  · by_cases e : j = i
    · subst e; rw [put_at]; exact hr
    · rw [put_far _ _ e]; exact h.fdok j hj

/-- The list turned alone. -/
theorem Lim.relist {w' : World} {ord' : List Nat} (h : Lim w D ord) (hL : Lst w' D.bL D.E D.n (Vof D.N) ord') (hm : ∀ i, i ∈ ord' ↔ i ∈ ord) (hF : Fr (LB D.bL D.E D.n) w w') : Lim w' D ord' := by
  obtain ⟨es0, ck0, ks0, hb0, h1, h2, h3⟩ := h.mp
  obtain ⟨hl1, hb1, ht1, he1⟩ := h.mid hF
  exact ⟨hl1, ht1, hL, ⟨es0, ck0, ks0, hb1.trans hb0, h1, h2, fun i => (h3 i).trans (hm i).symm⟩, he1, h.inj, h.small, h.lo, Nat.le_trans h.top hF.size, h.fdok, h.nowok⟩

theorem entC_set (i : Nat) {r0 r : Rec} {j : Nat} {v : Value} (hj : (entT r0).set j v = entT r) : (entC i r0).toArray.setIfInBounds (32 + j) v = (entC i r).toArray := by
  rw [List.setIfInBounds_toArray]
  congr 1
  unfold entC
  rw [List.set_append_right _ _ (by rw [kl_length]; omega), kl_length]
  rw [show 32 + j - 32 = j by omega, hj]

theorem Lim.put1 (h : Lim w D ord) {i : Nat} (hi : i < D.n) {r : Rec} (hr : r.ok) {j : Nat} {v : Value} (hj : (entT (D.fd i)).set j v = entT r) :
    Lim (w.setCell ⟨D.N i, 32 + j, none⟩ v) (D.put i r) ord ∧ Fr D.blk w (w.setCell ⟨D.N i, 32 + j, none⟩ v) := by
  have hF : Fr (fun k => k = D.N i) w (w.setCell ⟨D.N i, 32 + j, none⟩ v) := Fr.setCell (S := fun k => k = D.N i) w (a := ⟨D.N i, 32 + j, none⟩) rfl v
  refine ⟨h.putW hi hr ?_ hF, hF.mono fun k _ e => ?_⟩
  · rw [heap_setCell_at (h.ent i hi), entC_set i hj]
  · subst e; exact Or.inr (Or.inr (Or.inr (Or.inr ⟨i, hi, rfl⟩)))

theorem entC_set' (i : Nat) {r0 : Rec} (l : List Value) {j : Nat} (v : Value) : (kl i ++ l).toArray.setIfInBounds (32 + j) v = (kl i ++ l.set j v).toArray := by
  rw [List.setIfInBounds_toArray]
  congr 1
  rw [List.set_append_right _ _ (by rw [kl_length]; omega), kl_length]
  rw [show 32 + j - 32 = j by omega]
/-- Three cells of an entry written. -/
theorem Lim.put3 (h : Lim w D ord) {i : Nat} (hi : i < D.n) {r : Rec} (hr : r.ok) {j : Nat} {v0 v1 v2 : Value} (hj : (((entT (D.fd i)).set j v0).set (j + 1) v1).set (j + 2) v2 = entT r) :
    Lim (((w.setCell ⟨D.N i, 32 + j, none⟩ v0).setCell ⟨D.N i, 32 + (j + 1), none⟩ v1).setCell ⟨D.N i, 32 + (j + 2), none⟩ v2) (D.put i r) ord ∧
    Fr D.blk w (((w.setCell ⟨D.N i, 32 + j, none⟩ v0).setCell ⟨D.N i, 32 + (j + 1), none⟩ v1).setCell ⟨D.N i, 32 + (j + 2), none⟩ v2) := by
  have hF : Fr (fun k => k = D.N i) w (((w.setCell ⟨D.N i, 32 + j, none⟩ v0).setCell ⟨D.N i, 32 + (j + 1), none⟩ v1).setCell ⟨D.N i, 32 + (j + 2), none⟩ v2) :=
    (((Fr.refl (fun k => k = D.N i) w).set (a := ⟨D.N i, 32 + j, none⟩) (Or.inl rfl) v0).set (a := ⟨D.N i, 32 + (j + 1), none⟩) (Or.inl rfl) v1).set (a := ⟨D.N i, 32 + (j + 2), none⟩) (Or.inl rfl) v2
  refine ⟨h.putW hi hr ?_ hF, hF.mono fun k _ e => ?_⟩
  · have e0 := h.ent i hi
    unfold entC at e0
    have e1 := heap_setCell_at (o := 32 + j) e0 v0
    rw [entC_set' (r0 := r) i] at e1
    have e2 := heap_setCell_at (o := 32 + (j + 1)) e1 v1
    rw [entC_set' (r0 := r) i] at e2
    have e3 := heap_setCell_at (o := 32 + (j + 2)) e2 v2
    rw [entC_set' (r0 := r) i, hj] at e3
    exact e3
  · subst e; exact Or.inr (Or.inr (Or.inr (Or.inr ⟨i, hi, rfl⟩)))

/-- The clock. -/
theorem now55 (h : Lim w D ord) : Calls Try.prog 55 #[Ptr D.bt] w fun e w' => e = .returned (.agg (tm D.now)) ∧ Below w.heap.size w w' := by
  have hc := h.clk
  have h0 : w.cell? ⟨D.bt, 0, none⟩ = some (.int .u64 (D.now % 1000000000)) := cell_of_block hc 0
  have h1 : w.cell? ⟨D.bt, 1, none⟩ = some (.int .i64 (D.now / 1000000000)) := cell_of_block hc 1
  have h2 : w.cell? ⟨D.bt, 2, none⟩ = some (.pointer none) := cell_of_block hc 2
  have hlt := lt_of_heap hc
  clear h hc
  go_enter Try.func55, Try.ntmps55
  go_wp2
  refine bodyPost_ret (v := .agg (tm D.now)) (results_cell Try.results55 rfl ?_) rfl ⟨rfl, ?_⟩
  · exact run_loadVar_mid _ _ _ 63 [.int .u64 (D.now % 1000000000), .int .i64 (D.now / 1000000000), .pointer none] _ (range_of_block (heap_alloc_new w _)) Try.underlying63 rfl (by kernel_rfl)
  · exact (Below.refl _ _).alloc (Nat.le_refl _) _

set_option maxHeartbeats 800000 in
/-- 'decideHeld', nobody held -/
theorem decideHeld_lim (h : Lim w D ord) {i : Nat} (hi : i < D.n) (n : Int) : Calls Try.prog 67 #[Ptr (D.N i), .agg (tm n)] w fun e w' => e = .returned (.tuple #[]) ∧ Below w.heap.size w w' := by
  have h1 : w.cell? ⟨D.N i, 40, none⟩ = some (.slice none 0 0) := h.ec hi 8
  have h1' : ∀ o, (w.alloc o).cell? ⟨D.N i, 40, none⟩ = some (.slice none 0 0) := fun o => (h.below ((Below.refl _ _).alloc (Nat.le_refl _) _)).ec hi 8
  clear h
  unfold tm
  go_enter Try.func67, Try.ntmps67
  go_wp2
  refine wp_loop_once ?_
  go_wp2
  go_end0
  exact ⟨rfl, (Below.refl _ _).alloc (Nat.le_refl _) _⟩

/-- What the region of 'touch' reads. -/
abbrev TS (D : LD) (i b : Nat) (n : Int) (w' : World) : Prop := w'.cell? ⟨D.E i, 3, none⟩ = some (.iface 95 (Ptr (D.N i))) ∧ w'.cell? ⟨b, 0, none⟩ = some (.int .u64 (n % 1000000000)) ∧ w'.cell? ⟨b, 1, none⟩ = some (.int .i64 (n / 1000000000)) ∧ w'.cell? ⟨b, 2, none⟩ = some (.pointer none)
set_option maxHeartbeats 800000 in
theorem touch_lim (h : Lim w D ord) {i : Nat} (hi : i ∈ ord) {n : Int} (hn : In64 n) : Calls Try.prog 68 #[Ptr D.bl, Ptr (D.E i), .agg (tm n)] w fun e w' =>
    e = .returned (.tuple #[]) ∧ Lim w' (D.put i { D.fd i with la := n }) (ord.erase i ++ [i]) ∧ Fr D.blk w w' := by
  have hin := h.lt hi
  have h1 : Lim (w.alloc (.cells (tm n) 63)).drew D ord := (h.below ((Below.refl _ _).alloc (Nat.le_refl _) _)).sim (Sim.drew _)
  have H0 : Hid (TS D i w.heap.size n (w.alloc (.cells (tm n) 63)).drew) := by
    have hb : (w.alloc (.cells (tm n) 63)).drew.heap[w.heap.size]? = some (.cells (tm n) 63 (0, 0)) := heap_alloc_new w _
    exact ⟨h1.val hin, cell_of_block hb 0, cell_of_block hb 1, cell_of_block hb 2⟩
  have f0 : w.frozen? ⟨D.N i, 36, none⟩ = false := h.ef hin 36
  have f1 : w.frozen? ⟨D.N i, 37, none⟩ = false := h.ef hin 37
  have f2 : w.frozen? ⟨D.N i, 38, none⟩ = false := h.ef hin 38
  have c0 : w.cell? ⟨D.N i, 36, none⟩ = some (.int .u64 ((D.fd i).la % 1000000000)) := h.ec hin 4
  have c1 : w.cell? ⟨D.N i, 37, none⟩ = some (.int .i64 ((D.fd i).la / 1000000000)) := h.ec hin 5
  have c2 : w.cell? ⟨D.N i, 38, none⟩ = some (.pointer none) := h.ec hin 6
  have hlt := h.blk_lt (Or.inr (Or.inr (Or.inr (Or.inr ⟨i, hin, rfl⟩))))
  have hne : ¬ w.heap.size = D.N i := by omega
  have hta := ta95
  have hr : ({ D.fd i with la := n } : Rec).ok := ⟨(h.fdok i hin).1, (h.fdok i hin).2.1, hn, (h.fdok i hin).2.2.2⟩
  obtain ⟨hp, hpF⟩ := h.put3 hin hr (j := 4) (v0 := .int .u64 (n % 1000000000)) (v1 := .int .i64 (n / 1000000000)) (v2 := .pointer none) rfl
  have hp' : Lim ((((w.setCell ⟨D.N i, 36, none⟩ (.int .u64 (n % 1000000000))).setCell ⟨D.N i, 37, none⟩ (.int .i64 (n / 1000000000))).setCell ⟨D.N i, 38, none⟩ (.pointer none)).alloc (.cells (tm n) 63)).drew (D.put i { D.fd i with la := n }) ord :=
    (hp.below ((Below.refl _ _).alloc (Nat.le_refl _) _)).sim (Sim.drew _)
  have hpF' : Fr D.blk w ((((w.setCell ⟨D.N i, 36, none⟩ (.int .u64 (n % 1000000000))).setCell ⟨D.N i, 37, none⟩ (.int .i64 (n / 1000000000))).setCell ⟨D.N i, 38, none⟩ (.pointer none)).alloc (.cells (tm n) 63)).drew :=
    hpF.trans ((Fr.alloc _ _ _).trans (Fr.of_sim (Sim.drew _) _))
  have H1 : Hid (TS D i w.heap.size n ((((w.setCell ⟨D.N i, 36, none⟩ (.int .u64 (n % 1000000000))).setCell ⟨D.N i, 37, none⟩ (.int .i64 (n / 1000000000))).setCell ⟨D.N i, 38, none⟩ (.pointer none)).alloc (.cells (tm n) 63)).drew) := by
    have hb : ((((w.setCell ⟨D.N i, 36, none⟩ (.int .u64 (n % 1000000000))).setCell ⟨D.N i, 37, none⟩ (.int .i64 (n / 1000000000))).setCell ⟨D.N i, 38, none⟩ (.pointer none)).alloc (.cells (tm n) 63)).drew.heap[w.heap.size]? = some (.cells (tm n) 63 (0, 0)) := by
      have := heap_alloc_new (((w.setCell ⟨D.N i, 36, none⟩ (.int .u64 (n % 1000000000))).setCell ⟨D.N i, 37, none⟩ (.int .i64 (n / 1000000000))).setCell ⟨D.N i, 38, none⟩ (.pointer none)) (.cells (tm n) 63)
      have e : (((w.setCell ⟨D.N i, 36, none⟩ (.int .u64 (n % 1000000000))).setCell ⟨D.N i, 37, none⟩ (.int .i64 (n / 1000000000))).setCell ⟨D.N i, 38, none⟩ (.pointer none)).heap.size = w.heap.size := by simp
      rw [e] at this
      exact this
    exact ⟨hp'.val hin, cell_of_block hb 0, cell_of_block hb 1, cell_of_block hb 2⟩
  have hC := MoveToBack_lst hp'.lst (by have := h.small; show D.n < 1000000; omega) hi
  have HL : Hid _ := hp'
  have HF : Hid _ := hpF'
  clear h1 h hp hpF hp' hpF'
  unfold tm at *
  go_enter Try.func68, Try.ntmps68
  go_wp2
  go_region_held3 (TS D i w.heap.size n) (first | exact H0.out | exact H1.out) (fail)
  clear f0 f1 f2 c0 c1 c2 hlt hne hta H0 H1 ‹TS _ _ _ _ _›
  generalize ((((w.setCell ⟨D.N i, 36, none⟩ (.int .u64 (n % 1000000000))).setCell ⟨D.N i, 37, none⟩ (.int .i64 (n / 1000000000))).setCell ⟨D.N i, 38, none⟩ (.pointer none)).alloc (.cells #[.int .u64 (n % 1000000000), .int .i64 (n / 1000000000), .pointer none] 63)).drew = W at *
  have h4 : W.cell? ⟨D.bl, 4, none⟩ = some (Ptr D.bL) := HL.out.c4
  go_wp2_with fail
  refine hC.mono ?_
  rintro e w1 ⟨rfl, hL, hF⟩
  go_wp2
  go_end0
  exact ⟨rfl, HL.out.relist hL (fun j => by
    by_cases e : j = i
    · subst e; simp [hi]
    · rw [List.mem_append, List.mem_erase_of_ne e]; simp [e]) hF, HF.out.trans (hF.mono fun k _ hk => Or.inr (Or.inr (Or.inr (Or.inl hk))))⟩
end
end Go.Proofs.Qxb6612554a
