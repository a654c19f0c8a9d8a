import Derived.Test.Qxb6612554aLim
namespace Go.Proofs.Qxb6612554a
open Go.ChangeShapes Go.WideShapes Go.ChangeAt Go.RowKit
set_option linter.unusedVariables false
attribute [local go_sem ↓] Go.wp_at_zero Go.wp_at_succ

section
variable {w : World} {D : LD} {ord : List Nat}
theorem Lim.look (h : Lim w D ord) {i : Nat} (hi : i < 1000000) :
    (Instr.lookup 88 (.map (some D.bm)) (kv i) false).run Try.prog w = .ok (if i ∈ ord then Ptr (D.E i) else .pointer none) w ∧
    (Instr.lookup 88 (.map (some D.bm)) (kv i) true).run Try.prog w = .ok (.tuple #[if i ∈ ord then Ptr (D.E i) else .pointer none, .bool (decide (i ∈ ord))]) w := by
  obtain ⟨es, ck, ks, hb, hE, hd, hk⟩ := h.mp
  have := run_lookup hb hE (fun i hi => by have := h.lt ((hk i).1 hi); have := h.small; omega) hd hi
  simp only [hk] at this
  exact this

set_option maxRecDepth 20000 in
set_option maxHeartbeats 800000 in
theorem ZZKeyElem_lim (h : Lim w D ord) {i : Nat} (hi : i < 1000000) : Calls Try.prog 47 #[Ptr D.bl, kv i] w fun e w' => e = .returned (if i ∈ ord then Ptr (D.E i) else .pointer none) ∧ Below w.heap.size w w' := by
  have h' : Lim (w.alloc (.cells (kl i).toArray 49)) D ord := h.below ((Below.refl _ _).alloc (Nat.le_refl _) _)
  have H0 : Hid ((w.alloc (.cells (kl i).toArray 49)).drew.cell? ⟨D.bl, 3, none⟩ = some (.map (some D.bm)) ∧ (w.alloc (.cells (kl i).toArray 49)).drew.rangeAt w.heap.size 0 (kl i) ∧
      (Instr.lookup 88 (.map (some D.bm)) (.agg (kl i).toArray) false).run Try.prog (w.alloc (.cells (kl i).toArray 49)).drew = .ok (if i ∈ ord then Ptr (D.E i) else .pointer none) (w.alloc (.cells (kl i).toArray 49)).drew) := by
    have h'' := h'.sim (Sim.drew _)
    exact ⟨h''.c3, range_of_block (heap_alloc_new w _), (h''.look hi).1⟩
  clear h h'
  generalize (if i ∈ ord then Ptr (D.E i) else .pointer none) = v at *
  go_enter Try.func47, Try.ntmps47
  go_wp2

  have hu := Try.underlying49
  have hi49 : (Try.prog.info? 49).map (·.size) = some (kl i).length := by rw [kl_length]; exact size49
  have hl32 := kl_length i
  have h1c := kl_one i
  go_region_held3 (fun w' => w'.cell? ⟨D.bl, 3, none⟩ = some (.map (some D.bm)) ∧ w'.rangeAt w.heap.size 0 (kl i) ∧ (Instr.lookup 88 (.map (some D.bm)) (.agg (kl i).toArray) false).run Try.prog w' = .ok v w')
    (first | exact H0.out | assumption) (fail)
  go_wp2
  go_ret
  exact ⟨rfl, ((Below.refl _ _).alloc (Nat.le_refl _) _).drew⟩

/-- A map's block behind a store into the map. -/
theorem heap_setBlock_at {w : World} {b : Nat} {x : Obj} (hb : w.heap[b]? = some x) (o : Obj) : (ChangeMaps.setBlock w b o).heap[b]? = some o := by
  have := lt_of_heap hb
  simp [ChangeMaps.setBlock, this]
theorem heap_setBlock_far (w : World) {b k : Nat} (h : k ≠ b) (o : Obj) : (ChangeMaps.setBlock w b o).heap[k]? = w.heap[k]? := by
  simp only [ChangeMaps.setBlock]
  rw [Array.getElem?_setIfInBounds_ne (Ne.symm h)]
theorem Fr.setBlock {S : Nat → Prop} (w : World) {b : Nat} (hb : S b) (o : Obj) : Fr S w (ChangeMaps.setBlock w b o) :=
  ⟨rfl, rfl, rfl, by simp [ChangeMaps.setBlock], fun k _ hk => heap_setBlock_far w (fun e => hk (by rw [e]; exact hb)) o⟩
theorem map_ne {w : World} {b b' : Nat} {es : Array MapEntry} {ck : Nat} {c' : Array Value} {t' : TypeId} {f' : Nat × Nat} (h : w.heap[b]? = some (.map es ck)) (h' : w.heap[b']? = some (.cells c' t' f')) : b' ≠ b := by
  intro e
  subst e
  rw [h] at h'
  cases h'
/-- Behind what turns the list alone: the other parts. -/
theorem Lim.mid {w1 : World} (h : Lim w D ord) (hF : Fr (LB D.bL D.E D.n) w w1) :
    w1.heap[D.bl]? = some (.cells #[.func (.func 55) #[] #[Ptr D.bt], .int .i32 D.mu, .int .u32 0, .map (some D.bm), Ptr D.bL] 91 (0, 0)) ∧ w1.heap[D.bm]? = w.heap[D.bm]? ∧
    w1.heap[D.bt]? = some (.cells (tm D.now) 63 (0, 0)) ∧ ∀ i, i < D.n → w1.heap[D.N i]? = some (.cells (entC i (D.fd i)).toArray 94 (0, 0)) := by
  obtain ⟨es0, ck0, ks0, hb0, _⟩ := h.mp
  have far : ∀ k, D.blk k → ¬ LB D.bL D.E D.n k → w1.heap[k]? = w.heap[k]? := fun k hk hl => hF.block k (h.blk_lt hk) hl
  have notLB : ∀ {k : Nat} {c : Array Value} {t : TypeId} {f : Nat × Nat}, w.heap[k]? = some (.cells c t f) → t ≠ 110 → t ≠ 97 → ¬ LB D.bL D.E D.n k := by
    intro k c t f hk h1 h2 hl
    obtain ⟨nx, pv, lv, hN, _⟩ := h.lst
    rcases hl with rfl | ⟨j, hj, rfl⟩
    · rw [hN.root] at hk; cases hk; exact h1 rfl
    · rw [hN.el j hj] at hk; cases hk; exact h2 rfl
  have notLBm : ¬ LB D.bL D.E D.n D.bm := by
    intro hl
    obtain ⟨nx, pv, lv, hN, _⟩ := h.lst
    rcases hl with e | ⟨j, hj, e⟩
    · exact map_ne hb0 hN.root e.symm
    · exact map_ne hb0 (hN.el j hj) e.symm
  exact ⟨(far _ (Or.inl rfl) (notLB h.lim (by decide) (by decide))).trans h.lim, far _ (Or.inr (Or.inl rfl)) notLBm, (far _ (Or.inr (Or.inr (Or.inl rfl))) (notLB h.clk (by decide) (by decide))).trans h.clk,
    fun i hi => (far _ (Or.inr (Or.inr (Or.inr (Or.inr ⟨i, hi, rfl⟩)))) (notLB (h.ent i hi) (by decide) (by decide))).trans (h.ent i hi)⟩
/-- The map written, all else as it was; the list another. -/
theorem Lim.remap {w1 w2 : World} {ord' : List Nat} (h : Lim w D ord) (hL : Lst w1 D.bL D.E D.n (Vof D.N) ord') (hF : Fr (LB D.bL D.E D.n) w w1) {es : Array MapEntry} {ck : Nat} {ks : List Nat}
    (hE : Ents D.E es ks) (hd : ks.Nodup) (hk : ∀ i, i ∈ ks ↔ i ∈ ord') (hw2 : w2 = ChangeMaps.setBlock w1 D.bm (.map es ck)) : Lim w2 D ord' ∧ Fr D.blk w w2 := by
  subst hw2
  obtain ⟨es0, ck0, ks0, hb0, _⟩ := h.mp
  obtain ⟨hl1, hb1, ht1, he1⟩ := h.mid hF
  rw [hb0] at hb1
  obtain ⟨nx, pv, lv, hN, hr⟩ := hL
  have hset : Fr (fun k => k = D.bm) w1 (ChangeMaps.setBlock w1 D.bm (.map es ck)) := Fr.setBlock (S := fun k => k = D.bm) w1 rfl _
  refine ⟨⟨?_, ?_, ?_, ⟨es, ck, ks, heap_setBlock_at hb1 _, hE, hd, hk⟩, fun i hi => ?_, h.inj, h.small, h.lo, ?_, h.fdok, h.nowok⟩, ?_⟩
  · rw [heap_setBlock_far _ (map_ne hb1 hl1)]; exact hl1
  · rw [heap_setBlock_far _ (map_ne hb1 ht1)]; exact ht1
  · exact Lst.fr ⟨nx, pv, lv, hN, hr⟩ hset (fun e => map_ne hb1 hN.root e) (fun i hi e => map_ne hb1 (hN.el i hi) e)
  · rw [heap_setBlock_far _ (map_ne hb1 (he1 i hi))]; exact he1 i hi
  · exact Nat.le_trans h.top (Nat.le_trans hF.size hset.size)
  · exact hF.trans' hset (fun k _ hk => Or.inr (Or.inr (Or.inr (Or.inl hk)))) (fun k _ hk => Or.inr (Or.inl hk))

set_option maxRecDepth 20000 in
set_option maxHeartbeats 1600000 in
/-- '(*Limiter).drop' -/
theorem drop_lim (h : Lim w D ord) {i : Nat} (hi : i < D.n) :
    Calls Try.prog 43 #[Ptr D.bl, Ptr (D.E i)] w fun e w' => e = .returned (.tuple #[]) ∧ Lim w' D (ord.erase i) ∧ Fr D.blk w w' := by
  have hs := h.small
  have hC := Remove_lst h.lst (by omega) hi
  have hta := ta95
  have h4 := h.c4
  have h0 : Hid (Lim w D ord) := h
  clear h
  go_enter Try.func43, Try.ntmps43
  go_wp2_with fail
  refine hC.mono ?_
  rintro e w1 ⟨rfl, hL, hF⟩
  clear hC h4
  have fin : Hid (∃ es' ck, (Builtin.delete_ #[88, 49] 0 #[.map (some D.bm), kv i]).run Try.prog w1.drew = .ok (.tuple #[]) (ChangeMaps.setBlock w1.drew D.bm (.map es' ck)) ∧
      (Lim (ChangeMaps.setBlock w1.drew D.bm (.map es' ck)) D (ord.erase i) ∧ Fr D.blk w (ChangeMaps.setBlock w1.drew D.bm (.map es' ck))) ∧
      (w1.drew.cell? ⟨D.bl, 3, none⟩ = some (.map (some D.bm)) ∧ w1.drew.cell? ⟨D.E i, 3, none⟩ = some (.iface 95 (Ptr (D.N i))) ∧ w1.drew.rangeAt (D.N i) 0 (kl i))) := by
    have h := h0.out
    obtain ⟨es, ck, ks, hb, hE, hd, hk⟩ := h.mp
    obtain ⟨hl1, hb1, ht1, he1⟩ := h.mid (hF.trans (Fr.of_sim (Sim.drew w1) _))
    rw [hb] at hb1
    obtain ⟨es', hrun, hE'⟩ := run_delete hb1 hE (fun i hi => by have := h.lt ((hk i).1 hi); omega) hd (i := i) (by omega) 0
    have hL' := hL.sim (Sim.drew w1)
    refine ⟨es', ck, hrun, h.remap hL' (hF.trans (Fr.of_sim (Sim.drew w1) _)) hE' (hd.erase i) (fun j => ?_) rfl, cell_of_block hl1 3, ?_, ?_⟩
    · rw [hd.mem_erase_iff, h.lst.nodup.mem_erase_iff, hk]
    · obtain ⟨nx, pv, lv, hN, _⟩ := hL'
      exact hN.c3 (x := some i) hi
    · intro j v hv
      have hj : j < 32 := by
        have := (List.getElem?_eq_some_iff.1 hv).1
        rw [kl_length] at this
        exact this
      rw [Nat.zero_add, cell_of_block (he1 i hi)]
      simp only [List.getElem?_toArray]
      rw [entC_key _ _ _ hj]
      exact hv
  obtain ⟨es', ck, hdel, FIN, HS⟩ := fin.out
  have HF : Hid _ := FIN
  have H0 : Hid _ := HS
  have H1 : Hid ((ChangeMaps.setBlock w1.drew D.bm (.map es' ck)).cell? ⟨D.bl, 3, none⟩ = some (.map (some D.bm)) ∧ (ChangeMaps.setBlock w1.drew D.bm (.map es' ck)).cell? ⟨D.E i, 3, none⟩ = some (.iface 95 (Ptr (D.N i))) ∧ (ChangeMaps.setBlock w1.drew D.bm (.map es' ck)).rangeAt (D.N i) 0 (kl i)) :=
    ⟨FIN.1.c3, FIN.1.val hi, FIN.1.key hi⟩
  clear fin FIN HS hL hF h0
  go_wp2
  have hu := Try.underlying49
  have hi49 : (Try.prog.info? 49).map (·.size) = some (kl i).length := by rw [kl_length]; exact size49
  have hl32 := kl_length i
  have h1c := kl_one i
  go_region_held3 (fun w' => w'.cell? ⟨D.bl, 3, none⟩ = some (.map (some D.bm)) ∧ w'.cell? ⟨D.E i, 3, none⟩ = some (.iface 95 (Ptr (D.N i))) ∧ w'.rangeAt (D.N i) 0 (kl i))
    (first | exact H0.out | exact H1.out) (fail)
  go_wp2
  go_end0
  exact ⟨rfl, HF.out⟩
end
end Go.Proofs.Qxb6612554a
