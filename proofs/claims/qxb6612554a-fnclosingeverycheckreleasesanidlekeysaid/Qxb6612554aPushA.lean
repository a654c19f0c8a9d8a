import Derived.Test.Qxb6612554aNew
namespace Go.Proofs.Qxb6612554a
open Go.ChangeShapes Go.WideShapes Go.ChangeAt Go.RowKit
set_option linter.unusedVariables false

theorem arr_of_size (c : Array Value) (n : Nat) (h : c.size = n) : c = ((List.range n).map fun j => c.getD j undef).toArray := by
  apply Array.ext
  · simp [h]
  · intro j h1 h2
    simp [h1]

theorem tm_size (d : Int) : (tm d).size = 3 := rfl

theorem run_build94 (c0 c1 c2 c3 c4 : Nat → Value) (w : World) : (Instr.build 94 #[(0, .agg ((List.range 32).map c0).toArray), (1, .agg ((List.range 1).map c1).toArray), (2, .agg ((List.range 3).map c2).toArray), (3, .agg ((List.range 3).map c3).toArray), (4, .agg ((List.range 1).map c4).toArray)]).run Try.prog w
    = .ok (.agg (((List.range 32).map c0).toArray ++ ((List.range 1).map c1).toArray ++ ((List.range 3).map c2).toArray ++ ((List.range 3).map c3).toArray ++ ((List.range 1).map c4).toArray ++ #[.slice none 0 0])) w := by kernel_rfl
/-- 'build' looks at its parts' cells alone. -/
theorem fill_cells (place : Nat → Option (Nat × Nat)) : ∀ (l : List (Nat × Value)) (cells : Array Value), Instr.fill place cells (l.map fun p => (p.1, .agg p.2.cells)) = Instr.fill place cells l
  | [], _ => rfl
  | (i, v) :: l, cells => by
    have hc : (Value.agg v.cells).cells = v.cells := rfl
    simp only [List.map_cons, Instr.fill, hc]
    cases place i with
    | none => rfl
    | some q => simp only [fill_cells place l]
theorem build_cells (t : TypeId) (l : List (Nat × Value)) : Instr.build t l.toArray = Instr.build t (l.map fun p => (p.1, Value.agg p.2.cells)).toArray := by
  unfold Instr.build
  simp only [fill_cells]
/-- The operation that builds an entry. -/
theorem exec_build94 (ev : Operand → Value) (dst : Option Tmp) (ty : TypeId) (pos : String) (after : Array Edge) (g : Option (Nat × Bool)) (w : World) 
    (h0 : (ev (.tmp 18)).cells.size = 32) (h1 : (ev (.tmp 19)).cells.size = 1) (h2 : (ev (.tmp 22)).cells.size = 3) (h3 : (ev (.tmp 25)).cells.size = 3) (h4 : (ev (.tmp 26)).cells.size = 1) :
    (execOp ev ⟨dst, .build 94 #[(0, .tmp 18), (1, .tmp 19), (2, .tmp 22), (3, .tmp 25), (4, .tmp 26)], ty, pos, after, g⟩).run Try.prog w = 
      .ok (.value (.agg ((ev (.tmp 18)).cells ++ (ev (.tmp 19)).cells ++ (ev (.tmp 22)).cells ++ (ev (.tmp 25)).cells ++ (ev (.tmp 26)).cells ++ #[.slice none 0 0]))) w := by
  have := run_build94 (fun j => (ev (.tmp 18)).cells.getD j undef) (fun j => (ev (.tmp 19)).cells.getD j undef) (fun j => (ev (.tmp 22)).cells.getD j undef) (fun j => (ev (.tmp 25)).cells.getD j undef) (fun j => (ev (.tmp 26)).cells.getD j undef) w
  rw [← arr_of_size _ _ h0, ← arr_of_size _ _ h1, ← arr_of_size _ _ h2, ← arr_of_size _ _ h3, ← arr_of_size _ _ h4] at this
  simp only [execOp]
  simp only [List.map_toArray, List.map_cons, List.map_nil]
  rw [build_cells]
  simp only [List.map_cons, List.map_nil, Sem.run_bind, this]
  rfl



/-- What the region of ZZPush reads. -/
abbrev PS (D : LD) (kb i : Nat) (w' : World) : Prop := w'.cell? ⟨D.bl, 4, none⟩ = some (Ptr D.bL) ∧ w'.rangeAt kb 0 (kl i)
theorem PS.step {D : LD} {kb i : Nat} {w1 w2 : World} (h : PS D kb i w1) (hb : Below w1.heap.size w1 w2) : PS D kb i w2 := ⟨cell_later hb h.1, range_later hb h.2⟩
theorem PS.box {D : LD} {kb i : Nat} {w1 : World} (h : PS D kb i w1) (o : Obj) : PS D kb i (w1.alloc o) := h.step ((Below.refl _ _).alloc (Nat.le_refl _) _)
theorem chain3 {w w1 w2 : World} {o o' : Obj} (hA : Below (w.alloc o).drew.heap.size (w.alloc o).drew w1) (hB : Below w1.heap.size w1 w2) : Below w.heap.size w (w2.alloc o') ∧ w.heap.size < w2.heap.size := by
  have h1 : Below w.heap.size w (w.alloc o).drew := ((Below.refl _ _).alloc (Nat.le_refl _) _).drew
  have s1 : (w.alloc o).drew.heap.size = w.heap.size + 1 := by simp
  have h2 := h1.trans (hA.mono (by omega))
  have h3 := h2.trans (hB.mono h2.size)
  have s2 := hA.size
  have s3 := hB.size
  exact ⟨h3.alloc h3.size _, by omega⟩


theorem Lim.notLB {w : World} {D : LD} {ord : List Nat} (h : Lim w D ord) {k : Nat} {c : Array Value} {t : TypeId} {f : Nat × Nat} (hk : w.heap[k]? = some (.cells c t f)) (h1 : t ≠ 110) (h2 : t ≠ 97) : ¬ LB D.bL D.E D.n k := by
  intro hl
  obtain ⟨nx, pv, lv, hN, _⟩ := h.lst
  rcases hl with rfl | ⟨j, hj, rfl⟩
  · rw [hN.root] at hk; cases hk; exact h1 rfl
  · rw [hN.el j hj] at hk; cases hk; exact h2 rfl
theorem cell_fr {S : Nat → Prop} {w w' : World} (hF : Fr S w w') {a : Addr} {v : Value} (h : w.cell? a = some v) (hS : ¬ S a.block) : w'.cell? a = some v :=
  (World.cell?_of_block (w := w) (hF.block _ (World.block_lt_of_cell? _ _ h) hS)).trans h
theorem PS.push {D : LD} {ord : List Nat} {i : Nat} {w w1 w2 : World} (h : Lim w D ord) (hs : PS D w.heap.size i w1) (hF : Fr (LB D.bL D.E D.n) w1 w2) : PS D w.heap.size i w2 := by
  refine ⟨cell_fr hF hs.1 (h.notLB h.lim (by decide) (by decide)), fun j v hv => cell_fr hF (hs.2 j v hv) ?_⟩
  intro hl
  have := h.blk_lt (Or.inr (Or.inr (Or.inr (Or.inl hl))))
  simp at this

/-- One key more. -/
def LD.snoc (D : LD) (b nb : Nat) (r : Rec) : LD := { D with E := snocE D.E D.n b, N := snocE D.N D.n nb, n := D.n + 1, fd := fun j => if j = D.n then r else D.fd j }
theorem Vof_snoc (N : Nat → Nat) (n nb : Nat) : upd (Vof N) (some n) (.iface 95 (Ptr nb)) = Vof (snocE N n nb) := by
  funext x
  cases x with
  | none => rfl
  | some j =>
    by_cases e : j = n
    · subst e; simp [upd, Vof, snocE]
    · simp [upd, Vof, snocE, e]

theorem Lim.pushed {w w3 : World} {D : LD} {ord : List Nat} {nb : Nat} {r : Rec} (h : Lim w D ord) (hn : D.n < 16384) (hr : r.ok) (hent : w.heap[nb]? = some (.cells (entC D.n r).toArray 94 (0, 0))) (hnb : ¬ D.blk nb) (hB : D.B ≤ nb)
    (hL : Lst w3 D.bL (snocE D.E D.n w.heap.size) (D.n + 1) (upd (Vof D.N) (some D.n) (.iface 95 (Ptr nb))) (ord ++ [D.n])) (hF : Fr (LB D.bL D.E D.n) w w3) (hs : w.heap.size < w3.heap.size) :
    ∃ es ck, (Instr.mapUpdate 88 (.map (some D.bm)) (kv D.n) (Ptr w.heap.size)).run Try.prog w3 = .ok () (ChangeMaps.setBlock w3 D.bm (.map es ck)) ∧
      Lim (ChangeMaps.setBlock w3 D.bm (.map es ck)) (D.snoc w.heap.size nb r) (ord ++ [D.n]) ∧ Fr D.blk w (ChangeMaps.setBlock w3 D.bm (.map es ck)) := by
  rw [Vof_snoc] at hL
  obtain ⟨es, ck, ks, hb, hE, hd, hk⟩ := h.mp
  obtain ⟨hl1, hb1, ht1, he1⟩ := h.mid hF
  rw [hb] at hb1
  have hno : D.n ∉ ord := fun hh => by have := h.lt hh; omega
  have hnk : D.n ∉ ks := fun hh => hno ((hk _).1 hh)
  have hkl : ∀ i ∈ ks, i < D.n := fun i hi => h.lt ((hk i).1 hi)
  have hrun := run_update hb1 hE (fun i hi => by have := hkl i hi; omega) (i := D.n) (by omega) hnk (Ptr w.heap.size)
  refine ⟨es.push ⟨kv D.n, Ptr w.heap.size, ck⟩, ck + 1, hrun, ?_, ?_⟩
  · obtain ⟨nx, pv, lv, hN, hrest⟩ := hL
    have hset : Fr (fun k => k = D.bm) w3 (ChangeMaps.setBlock w3 D.bm (.map (es.push ⟨kv D.n, Ptr w.heap.size, ck⟩) (ck + 1))) := Fr.setBlock (S := fun k => k = D.bm) w3 rfl _
    have hnb3 : w3.heap[nb]? = some (.cells (entC D.n r).toArray 94 (0, 0)) := by
      rw [hF.block nb (lt_of_heap hent) (h.notLB hent (by decide) (by decide))]; exact hent
    have hen : ∀ i, i < D.n + 1 → w3.heap[snocE D.N D.n nb i]? = some (.cells (entC i ((D.snoc w.heap.size nb r).fd i)).toArray 94 (0, 0)) := by
      intro i hi
      by_cases e : i = D.n
      · subst e; rw [snocE_new]; simpa [LD.snoc] using hnb3
      · have hi' : i < D.n := by omega
        rw [snocE_old _ _ hi']
        simpa [LD.snoc, e] using he1 i hi'
    refine ⟨?_, ?_, ?_, ⟨_, _, ks ++ [D.n], heap_setBlock_at hb1 _, ?_, ?_, ?_⟩, fun i hi => ?_, ?_, ?_, ?_, ?_, ?_, h.nowok⟩
    · show (ChangeMaps.setBlock w3 D.bm _).heap[D.bl]? = _
      rw [heap_setBlock_far _ (map_ne hb1 hl1)]; exact hl1
    · show (ChangeMaps.setBlock w3 D.bm _).heap[D.bt]? = _
      rw [heap_setBlock_far _ (map_ne hb1 ht1)]; exact ht1
    · exact Lst.fr ⟨nx, pv, lv, hN, hrest⟩ hset (fun e => map_ne hb1 hN.root e) (fun i hi e => map_ne hb1 (hN.el i hi) e)
    · have hE' : Ents (snocE D.E D.n w.heap.size) es ks := hE.congr (fun i hi => snocE_old _ _ (hkl i hi))
      have := hE'.push (ck := ck) D.n
      rw [snocE_new] at this
      exact this
    · refine List.nodup_append.2 ⟨hd, by simp, ?_⟩
      intro a ha b hb e
      have hb' : b = D.n := by simpa using hb
      have := hkl a ha
      omega
    · intro i
      simp only [List.mem_append, hk]
    · show (ChangeMaps.setBlock w3 D.bm _).heap[snocE D.N D.n nb i]? = _
      rw [heap_setBlock_far _ (map_ne hb1 (hen i hi))]; exact hen i hi
    · intro i j hi hj e
      have nbN : ∀ i, i < D.n → D.N i ≠ nb := fun i hi e => hnb (e ▸ Or.inr (Or.inr (Or.inr (Or.inr ⟨i, hi, rfl⟩))))
      have hi' : i < D.n + 1 := hi
      have hj' : j < D.n + 1 := hj
      have e' : snocE D.N D.n nb i = snocE D.N D.n nb j := e
      by_cases e1 : i = D.n
      · by_cases e2 : j = D.n
        · omega
        · rw [e1, snocE_new, snocE_old _ _ (show j < D.n by omega)] at e'
          exact absurd e'.symm (nbN j (by omega))
      · by_cases e2 : j = D.n
        · rw [e2, snocE_new, snocE_old _ _ (show i < D.n by omega)] at e'
          exact absurd e' (nbN i (by omega))
        · rw [snocE_old _ _ (show i < D.n by omega), snocE_old _ _ (show j < D.n by omega)] at e'
          exact h.inj i j (by omega) (by omega) e'
    · show D.n + 1 ≤ 16384
      omega
    · intro k hk'
      show D.B ≤ k
      rcases hk' with e | e | e | (e | ⟨j, hj, e⟩) | ⟨j, hj, e⟩
      · exact h.lo k (Or.inl e)
      · exact h.lo k (Or.inr (Or.inl e))
      · exact h.lo k (Or.inr (Or.inr (Or.inl e)))
      · exact h.lo k (Or.inr (Or.inr (Or.inr (Or.inl (Or.inl e)))))
      · have hj' : j < D.n + 1 := hj
        have e' : k = snocE D.E D.n w.heap.size j := e
        by_cases e2 : j = D.n
        · rw [e2, snocE_new] at e'; have := h.top; omega
        · rw [snocE_old _ _ (show j < D.n by omega)] at e'
          exact h.lo k (Or.inr (Or.inr (Or.inr (Or.inl (Or.inr ⟨j, by omega, e'⟩)))))
      · have hj' : j < D.n + 1 := hj
        have e' : k = snocE D.N D.n nb j := e
        by_cases e2 : j = D.n
        · rw [e2, snocE_new] at e'; omega
        · rw [snocE_old _ _ (show j < D.n by omega)] at e'
          exact h.lo k (Or.inr (Or.inr (Or.inr (Or.inr ⟨j, by omega, e'⟩))))
    · show D.B ≤ (ChangeMaps.setBlock w3 D.bm _).heap.size
      have := hset.size
      have := h.top
      omega
    · intro i hi
      by_cases e : i = D.n
      · subst e; simpa [LD.snoc] using hr
      · simpa [LD.snoc, e] using h.fdok i (by have : i < D.n + 1 := hi; omega)
  · have hset : Fr (fun k => k = D.bm) w3 (ChangeMaps.setBlock w3 D.bm (.map (es.push ⟨kv D.n, Ptr w.heap.size, ck⟩) (ck + 1))) := Fr.setBlock (S := fun k => k = D.bm) w3 rfl _
    exact hF.trans' hset (fun k _ hk => Or.inr (Or.inr (Or.inr (Or.inl hk)))) (fun k _ hk => Or.inr (Or.inl hk))
end Go.Proofs.Qxb6612554a
