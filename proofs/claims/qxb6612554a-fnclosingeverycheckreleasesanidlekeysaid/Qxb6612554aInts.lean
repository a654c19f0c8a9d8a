import Derived.Test.Qxb6612554aMatch
namespace Go.Proofs.Qxb6612554a
open Go.ChangeShapes Go.WideShapes Go.ChangeAt Go.RowKit
set_option linter.unusedVariables false

/-- A row of places: L first, room for 'lim' in all. -/
def RowI (g lim : Nat) (L : List Nat) (w : World) : Prop := ∃ Z : List Value, w.heap[g]? = some (.cells ((L.map fun i : Nat => Value.int .i64 i) ++ Z).toArray 3 (0, 0)) ∧ Z.length = lim - L.length
theorem RowI.fr {g lim : Nat} {L : List Nat} {w w' : World} {S : Nat → Prop} (h : RowI g lim L w) (hf : Fr S w w') (hS : ¬ S g) : RowI g lim L w' := by
  obtain ⟨Z, h1, h2⟩ := h
  exact ⟨Z, by rw [hf.block _ (lt_of_heap h1) hS]; exact h1, h2⟩
theorem RowI.later {g lim : Nat} {L : List Nat} {w w' : World} (h : RowI g lim L w) (hb : Below w.heap.size w w') : RowI g lim L w' :=
  h.fr (Fr.of_below hb (fun _ => False) (fun k hk hle => by omega)) (fun hf => hf)
theorem RowI.lt {g lim : Nat} {L : List Nat} {w : World} (h : RowI g lim L w) : g < w.heap.size := by
  obtain ⟨Z, h1, _⟩ := h
  exact lt_of_heap h1
theorem RowI.cell {g lim : Nat} {L : List Nat} {w : World} (h : RowI g lim L w) {k i : Nat} (hk : L[k]? = some i) : w.cell? ⟨g, k, none⟩ = some (.int .i64 i) := by
  obtain ⟨Z, h1, _⟩ := h
  rw [cell_of_block h1]
  simp only [List.getElem?_toArray]
  rw [List.getElem?_append_left (by have := (List.getElem?_eq_some_iff.1 hk).1; simpa using this)]
  simp [hk]
theorem RowI.want {g lim : Nat} {L : List Nat} {w : World} (h : RowI g lim L w) : WantV w (some ⟨g, 0, none⟩) L := fun _ => ⟨g, 0, rfl, fun k i hk => by rw [Nat.zero_add]; exact h.cell hk⟩
theorem RowI.push {g lim : Nat} {L : List Nat} {w : World} (h : RowI g lim L w) (hl : L.length < lim) (i : Nat) : RowI g lim (L ++ [i]) (w.setCells g (0 + L.length * 1) [.int .i64 i]) := by
  obtain ⟨Z, h1, h2⟩ := h
  refine ⟨Z.drop 1, ?_, ?_⟩
  · have hl' : (L.map fun i : Nat => Value.int .i64 i).length = L.length := by simp
    have := heap_setCells_at [Value.int .i64 i] (o := 0 + L.length * 1) h1 (by rw [List.length_append, hl', h2]; simp; omega)
    rw [this]
    have e0 : 0 + L.length * 1 = (L.map fun i : Nat => Value.int .i64 i).length := by rw [hl']; omega
    have e1 : ((L.map fun i : Nat => Value.int .i64 i) ++ Z).take (0 + L.length * 1) = L.map fun i : Nat => Value.int .i64 i := by rw [e0, List.take_left']; rfl
    have e2 : ((L.map fun i : Nat => Value.int .i64 i) ++ Z).drop (0 + L.length * 1 + [Value.int .i64 i].length) = Z.drop 1 := by
      rw [e0, List.drop_append]
      simp
    rw [e1, e2]
    simp
  · rw [List.length_drop, h2, List.length_append, List.length_singleton]
    omega

theorem info3 : (Try.prog.info? 3).map (fun i => (i.zero, i.size, i.bytes)) = some (some (.int .i64 0), 1, 8) := by kernel_rfl
/-- 'make([]int, 0, n)' -/
theorem make31 (n : Nat) (hn : n ≤ 20000) (w : World) : ∃ Z : List Value, Z.length = n ∧ (Instr.makeSlice 31 (.int .i64 0) (.int .i64 n)).run Try.prog w = .ok (.slice (some ⟨w.heap.size, 0, none⟩) 0 n) (w.alloc (.cells Z.toArray 3)) := by
  obtain ⟨i0, hi, hz0, hz1, hz2⟩ := info_parts info3
  have := run_make (P := Try.prog) w 31 3 i0 (.int .i64 0) Try.underlying31 hi hz0 .i64 .i64 0 n (by omega) (by omega) (by rw [hz2]; omega) (by omega)
  refine ⟨(madeCells (Value.cells (.int .i64 0)) (n * 1)).toList, by simp [size_madeCells], ?_⟩
  rw [this, hz1]
  simp

/-- 'out = append(out, i)', where there is room -/
theorem wpList_append31 {ops : Array Oper} {rest : List Oper} {o : Oper} {a : Act} {w W1 : World} {Q : Exit → Act → World → Prop} {g lim i : Nat} {L : List Nat} (hgd : o.guard = none) (s x : Operand)
    (hop : o.op = Op.call { callee := Callee.builtin Builtin.append, args := #[s, x], argTypes := #[31, 31] }) (hW : w = W1.alloc (.cells #[.int .i64 i] 3))
    (hs : a.eval s = .slice (some ⟨g, 0, none⟩) L.length lim) (hx : a.eval x = .slice (some ⟨W1.heap.size, 0, none⟩) 1 1) (hrow : RowI g lim L w) (hl : L.length < lim)
    (h : ∀ W2, RowI g lim (L ++ [i]) W2 → Fr (fun k => k = g) w W2 → wpList Try.prog ops Q rest (a.put o.dst (.slice (some ⟨g, 0, none⟩) (L.length + 1) lim)) W2) : wpList Try.prog ops Q (o :: rest) a w := by
  obtain ⟨i0, hi, hz0, hz1, hz2⟩ := info_parts info3
  have hrun := run_append_room_cells (P := Try.prog) w 31 o.type 3 i0 Try.underlying31 hi g 0 L.length lim ⟨W1.heap.size, 0, none⟩ 1 1 [.int .i64 i] (by rw [hz1]; rfl)
    (fun j u hu => by
      rw [Addr.add_mid, hW, cell_of_block (heap_alloc_new W1 _)]
      simpa using hu)
    (fun u hu => by simp at hu; subst hu; rfl) (by omega)
    (fun j hj => by
      have hj0 : j = 0 := by simpa using hj
      subst hj0
      obtain ⟨Z, h1, h2⟩ := hrow
      rw [cell_of_block h1, hz1]
      rw [Array.getElem?_eq_getElem]
      · rfl
      · simp; omega)
    (fun j hj => by
      obtain ⟨Z, h1, h2⟩ := hrow
      exact frozen_of_block h1 _)
  refine wpList_plain hgd fun K hK => ?_
  unfold Oper.wp
  simp [execOp, hop, resolve, invoke, builtin, hs, hx, hrun, Result.andThen]
  rw [hz1]
  have hp := hrow.push hl i
  rw [Nat.zero_add] at hp
  refine hK _ _ (h _ hp ?_)
  exact Fr.setCells (S := fun k => k = g) _ _ _ rfl
end Go.Proofs.Qxb6612554a
