import Derived.Test.Qxb6612554aBuild
import Derived.Deep.RegionLaw
namespace Go.Proofs.Qxb6612554a
open Go.ChangeShapes Go.WideShapes Go.ChangeAt Go.RowKit
set_option linter.unusedVariables false

theorem run_build51 (c0 c1 c2 c3 c4 : Nat → Value) (w : World) : (Instr.build 51 #[(0, .agg ((List.range 32).map c0).toArray), (1, .agg ((List.range 1).map c1).toArray), (2, .agg ((List.range 1).map c2).toArray), (3, .agg ((List.range 1).map c3).toArray), (4, .agg ((List.range 1).map c4).toArray)]).run Try.prog w
    = .ok (.agg (((List.range 32).map c0).toArray ++ ((List.range 1).map c1).toArray ++ ((List.range 1).map c2).toArray ++ ((List.range 1).map c3).toArray ++ ((List.range 1).map c4).toArray)) w := by kernel_rfl
/-- The operation that builds a record. -/
theorem exec_build51 (ev : Operand → Value) (dst : Option Tmp) (ty : TypeId) (pos : String) (after : Array Edge) (g : Option (Nat × Bool)) (w : World) 
    (h0 : (ev (.tmp 31)).cells.size = 32) (h1 : (ev (.tmp 33)).cells.size = 1) (h2 : (ev (.tmp 35)).cells.size = 1) (h3 : (ev (.tmp 37)).cells.size = 1) (h4 : (ev (.tmp 39)).cells.size = 1) :
    (execOp ev ⟨dst, .build 51 #[(0, .tmp 31), (1, .tmp 33), (2, .tmp 35), (3, .tmp 37), (4, .tmp 39)], ty, pos, after, g⟩).run Try.prog w = 
      .ok (.value (.agg ((ev (.tmp 31)).cells ++ (ev (.tmp 33)).cells ++ (ev (.tmp 35)).cells ++ (ev (.tmp 37)).cells ++ (ev (.tmp 39)).cells))) w := by
  have := run_build51 (fun j => (ev (.tmp 31)).cells.getD j undef) (fun j => (ev (.tmp 33)).cells.getD j undef) (fun j => (ev (.tmp 35)).cells.getD j undef) (fun j => (ev (.tmp 37)).cells.getD j undef) (fun j => (ev (.tmp 39)).cells.getD j undef) w
  rw [← arr_of_size _ _ h0, ← arr_of_size _ _ h1, ← arr_of_size _ _ h2, ← arr_of_size _ _ h3, ← arr_of_size _ _ h4] at this
  simp only [execOp]
  simp only [List.map_toArray, List.map_cons, List.map_nil]
  rw [build_cells]
  simp only [List.map_cons, List.map_nil, Sem.run_bind, this]
  rfl

theorem run_bs46 (c : Nat → Value) (w : World) : (Instr.buildSlice 46 1 #[(0, .agg ((List.range 36).map c).toArray)]).run Try.prog w = .ok (.slice (some ⟨w.heap.size, 0, none⟩) 1 1) (w.alloc (.cells ((List.range 36).map c).toArray 51)) := by kernel_rfl
theorem buildSlice_cells (t : TypeId) (n : Nat) (l : List (Nat × Value)) : Instr.buildSlice t n l.toArray = Instr.buildSlice t n (l.map fun p => (p.1, Value.agg p.2.cells)).toArray := by
  unfold Instr.buildSlice
  simp only [fill_cells]
theorem exec_bs46 (ev : Operand → Value) (dst : Option Tmp) (ty : TypeId) (pos : String) (after : Array Edge) (g : Option (Nat × Bool)) (w : World) (h0 : (ev (.tmp 40)).cells.size = 36) :
    (execOp ev ⟨dst, .buildSlice 46 1 #[(0, .tmp 40)], ty, pos, after, g⟩).run Try.prog w = .ok (.value (.slice (some ⟨w.heap.size, 0, none⟩) 1 1)) (w.alloc (.cells (ev (.tmp 40)).cells 51)) := by
  have := run_bs46 (fun j => (ev (.tmp 40)).cells.getD j undef) w
  rw [← arr_of_size _ _ h0] at this
  simp only [execOp]
  simp only [List.map_toArray, List.map_cons, List.map_nil]
  rw [buildSlice_cells]
  simp only [List.map_cons, List.map_nil, Sem.run_bind, this]
  rfl

/-- A RECORD's 36 CELLS. -/
def recC (i : Nat) (r : Rec) : List Value := kl i ++ [.int .i64 r.f, .int .i64 r.lf, .int .i64 r.la, .int .i64 r.fl]
theorem recC_length (i : Nat) (r : Rec) : (recC i r).length = 36 := by simp [recC, kl_length]
theorem recC_one (i : Nat) (r : Rec) : ∀ v ∈ recC i r, v.oneCell' = true := by
  intro v hv
  rcases List.mem_append.1 hv with h | h
  · exact kl_one i v h
  · simp at h
    rcases h with rfl | rfl | rfl | rfl <;> rfl
/-- The records of the keys l. -/
def recs (fd : Nat → Rec) (l : List Nat) : List Value := l.flatMap fun i => recC i (fd i)
theorem recs_length (fd : Nat → Rec) (l : List Nat) : (recs fd l).length = l.length * 36 := by
  induction l with
  | nil => rfl
  | cons i l ih =>
    have : recs fd (i :: l) = recC i (fd i) ++ recs fd l := rfl
    rw [this, List.length_append, recC_length, ih, List.length_cons]
    omega
/-- The slice's array: records of l first, room for 'lim' in all. -/
def RowOk (g lim : Nat) (fd : Nat → Rec) (l : List Nat) (w : World) : Prop := ∃ Z : List Value, w.heap[g]? = some (.cells (recs fd l ++ Z).toArray 51 (0, 0)) ∧ Z.length = (lim - l.length) * 36

theorem RowOk.later {g lim : Nat} {fd : Nat → Rec} {l : List Nat} {w w' : World} (h : RowOk g lim fd l w) (hb : Below w.heap.size w w') : RowOk g lim fd l w' := by
  obtain ⟨Z, h1, h2⟩ := h
  exact ⟨Z, by rw [hb.block _ (lt_of_heap h1)]; exact h1, h2⟩

/-- cells written at their place -/
theorem heap_setCells_at : ∀ (vs : List Value) {w : World} {b o : Nat} {c : List Value} {t : TypeId} {f : Nat × Nat}, w.heap[b]? = some (.cells c.toArray t f) → o + vs.length ≤ c.length →
    (w.setCells b o vs).heap[b]? = some (.cells (c.take o ++ vs ++ c.drop (o + vs.length)).toArray t f)
  | [], w, b, o, c, t, f, h, hl => by
    simp only [World.setCells, List.append_nil, List.length_nil, Nat.add_zero, List.take_append_drop]
    exact h
  | v :: vs, w, b, o, c, t, f, h, hl => by
    have h1 := heap_setCell_at (o := o) h v
    rw [List.setIfInBounds_toArray] at h1
    simp only [List.length_cons] at hl
    have h2 := heap_setCells_at vs (o := o + 1) h1 (by simp; omega)
    simp only [World.setCells]
    rw [h2]
    have e1 : (c.set o v).take (o + 1) = c.take o ++ [v] := by
      rw [List.take_set, List.take_succ_eq_append_getElem (by omega), List.set_append_right _ _ (by simp; omega)]
      simp [Nat.min_eq_left (show o ≤ c.length by omega)]
    have e2 : (c.set o v).drop (o + 1 + vs.length) = c.drop (o + (vs.length + 1)) := by
      rw [List.drop_set_of_lt (by omega)]
      congr 1
      omega
    rw [e1, e2]
    simp
theorem heap_setCells_far : ∀ (vs : List Value) (w : World) {b k : Nat} (o : Nat), k ≠ b → (w.setCells b o vs).heap[k]? = w.heap[k]?
  | [], _, _, _, _, _ => rfl
  | v :: vs, w, b, k, o, h => by
    simp only [World.setCells]
    rw [heap_setCells_far vs _ _ h, heap_setCell_far h]
theorem Fr.setCells {S : Nat → Prop} : ∀ (vs : List Value) (w : World) {b : Nat} (o : Nat), S b → Fr S w (w.setCells b o vs)
  | [], w, _, _, _ => Fr.refl _ _
  | v :: vs, w, b, o, h => (Fr.setCell w (a := ⟨b, o, none⟩) h v).trans (Fr.setCells vs _ _ h)

/-- One record more. -/
theorem RowOk.push {g lim : Nat} {fd : Nat → Rec} {l : List Nat} {w : World} (h : RowOk g lim fd l w) (hl : l.length < lim) (i : Nat) : RowOk g lim fd (l ++ [i]) (w.setCells g (0 + l.length * 36) (recC i (fd i))) := by
  obtain ⟨Z, h1, h2⟩ := h
  have hlen := recs_length fd l
  refine ⟨Z.drop 36, ?_, ?_⟩
  · have := heap_setCells_at (recC i (fd i)) (o := 0 + l.length * 36) h1 (by rw [List.length_append, hlen, recC_length, h2]; have : 1 ≤ lim - l.length := by omega
                                                                             omega)
    rw [this, recC_length]
    have e1 : (recs fd l ++ Z).take (0 + l.length * 36) = recs fd l := by rw [Nat.zero_add, ← hlen, List.take_left']; rfl
    have e2 : (recs fd l ++ Z).drop (0 + l.length * 36 + 36) = Z.drop 36 := by
      rw [Nat.zero_add, ← hlen, List.drop_append]
      simp
    have e3 : recs fd (l ++ [i]) = recs fd l ++ recC i (fd i) := by simp [recs]
    rw [e1, e2, e3]
  · rw [List.length_drop, h2, List.length_append, List.length_singleton]
    have : lim - l.length = (lim - (l.length + 1)) + 1 := by omega
    rw [this, Nat.add_mul]
    omega
/-- The same records, whatever is written behind them. -/
theorem RowOk.weaken {g lim : Nat} {fd : Nat → Rec} {l : List Nat} {i : Nat} {w : World} (h : RowOk g lim fd (l ++ [i]) w) (hl : l.length < lim) : RowOk g lim fd l w := by
  obtain ⟨Z, h1, h2⟩ := h
  refine ⟨recC i (fd i) ++ Z, ?_, ?_⟩
  · rw [h1]
    have e3 : recs fd (l ++ [i]) = recs fd l ++ recC i (fd i) := by simp [recs]
    rw [e3, List.append_assoc]
  · rw [List.length_append, recC_length, h2, List.length_append, List.length_singleton]
    have : lim - l.length = (lim - (l.length + 1)) + 1 := by omega
    rw [this, Nat.add_mul]
    omega
/-- A record of the row, read. -/
theorem RowOk.get {g lim : Nat} {fd : Nat → Rec} {l : List Nat} {w : World} (h : RowOk g lim fd l w) {k i : Nat} (hk : l[k]? = some i) : w.rangeAt g (k * 36) (recC i (fd i)) := by
  obtain ⟨Z, h1, h2⟩ := h
  intro j v hv
  have hj : j < 36 := by
    have := (List.getElem?_eq_some_iff.1 hv).1
    rw [recC_length] at this
    exact this
  rw [cell_of_block h1]
  simp only [List.getElem?_toArray]
  have hkl : k < l.length := (List.getElem?_eq_some_iff.1 hk).1
  rw [List.getElem?_append_left (by rw [recs_length]; omega)]
  clear h1 h2 Z
  induction l generalizing k with
  | nil => simp at hk
  | cons x l ih =>
    have e : recs fd (x :: l) = recC x (fd x) ++ recs fd l := rfl
    rw [e]
    cases k with
    | zero =>
      have : x = i := by simpa using hk
      subst this
      rw [List.getElem?_append_left (by rw [recC_length]; omega)]
      simpa using hv
    | succ k =>
      have hk' : l[k]? = some i := by simpa using hk
      rw [List.getElem?_append_right (by rw [recC_length]; omega), recC_length]
      have : (k + 1) * 36 + j - 36 = k * 36 + j := by omega
      rw [this]
      exact ih hk' (by simp at hkl; omega)
end Go.Proofs.Qxb6612554a
