import Derived.Test.Qxb6602344aMake
import Derived.Laws.CopyOwn
import Derived.LaidEqlPtr
namespace Go.Proofs.Qxb6602344a
open Go.ChangeShapes Go.WideShapes Go.ChangeAt Go.RowKit
open Classical
set_option linter.unusedVariables false
set_option linter.unusedSimpArgs false

/-- the row of the objects -/
def ptrs (O : Nat → Nat) (N : Nat) : List Value := (List.range (N + 1)).map fun i => Ptr (O i)
theorem ptrs_length (O : Nat → Nat) (N : Nat) : (ptrs O N).length = N + 1 := by simp [ptrs]
theorem ptrs_get (O : Nat → Nat) (N : Nat) {i : Nat} (hi : i ≤ N) : (ptrs O N)[i]? = some (Ptr (O i)) := by
  unfold ptrs
  rw [List.getElem?_map, List.getElem?_range (by omega)]
  rfl
theorem wpList_copy_objs {ops : Array Oper} {rest : List Oper} {o : Oper} {a : Act} {w : World} {Q : Exit → Act → World → Prop} (hgd : o.guard = none) (d s : Operand)
    (ho : o.op = .call { callee := .builtin .copy, args := #[d, s], argTypes := #[58, 58] }) (g so N cap : Nat) (O : Nat → Nat) (cur : Array Value) (hg : w.heap[g]? = some (.cells cur 59 (0, 0))) (hcs : cur.size = N + 1)
    (hd : a.eval d = .slice (some ⟨g, 0, none⟩) (N + 1) (N + 1)) (hs : a.eval s = .slice (some ⟨so, 0, none⟩) (N + 1) cap) (hsrc : ∀ i, i ≤ N → w.cell? ⟨so, i, none⟩ = some (Ptr (O i)))
    (h : ∀ W', W'.heap[g]? = some (.cells (ptrs O N).toArray 59 (0, 0)) → (∀ b, b ≠ g → W'.heap[b]? = w.heap[b]?) → Below g w W' → W'.heap.size = w.heap.size → wpList Try.prog ops Q rest (a.put o.dst (goInt (ptrs O N).length)) W') : wpList Try.prog ops Q (o :: rest) a w := by
  have hsz : (Try.prog.info? 59).map (·.size) = some 1 := by kernel_rfl
  refine wpList_copy_own hgd d s 58 58 ho 59 Try.underlying58 hsz g 0 (N + 1) (N + 1) ⟨so, 0, none⟩ (N + 1) cap hd hs cur 59 hg (ptrs O N) (by rw [ptrs_length]; exact (Nat.min_self _).symm) (fun j v hv => ?_) (by rw [ptrs_length]; omega) (fun v hv => ?_) (h _ ?_ ?_ ?_ ?_)
  · have hj : j < N + 1 := by
      have := (List.getElem?_eq_some_iff.1 hv).1
      rwa [ptrs_length] at this
    rw [ptrs_get O N (by omega)] at hv
    cases hv
    rw [Addr.add_mid, Nat.zero_add]
    exact hsrc j (by omega)
  · obtain ⟨i, _, rfl⟩ := List.mem_map.1 hv
    rfl
  · have e : (cur.toList.take 0 ++ (ptrs O N ++ cur.toList.drop (0 + (ptrs O N).length))) = ptrs O N := by
      rw [List.take_zero, List.nil_append, ptrs_length, List.drop_eq_nil_of_le (by simp; omega), List.append_nil]
    rw [e]
    exact setRow_heap w g cur _ 59 _ hg
  · intro b hb
    exact setRow_other w g b _ hb
  · exact below_setRow (Below.refl _ _) (Nat.le_refl _) _
  · simp [World.setRow]

section
variable {w : World} {sb so cap : Nat} {O : Nat → Nat} {hm base : Nat} {db nm ow : ByteArray} {N : Nat} {S : Nat → ByteArray} {keys : List ByteArray} {G : ByteArray → List Value} {vs : ByteArray → Value}
theorem Snap.later {w' : World} (h : Snap w sb so cap O hm base db nm ow N S keys G vs) (hb : ∀ b, b < w.heap.size → w'.heap[b]? = w.heap[b]?) : Snap w' sb so cap O hm base db nm ow N S keys G vs := by
  obtain ⟨c, h1, h2⟩ := h.objs
  exact ⟨by rw [hb _ (lt_of_heap h.top)]; exact h.top, ⟨c, by rw [hb _ (lt_of_heap h1)]; exact h1, h2⟩, by rw [hb _ (lt_of_heap h.o0)]; exact h.o0, fun i hi => by rw [hb _ (lt_of_heap (h.os i hi))]; exact h.os i hi, h.gm.kept (fun b hlt _ => hb b hlt)⟩
theorem Snap.kept {w' : World} {x : Nat} {cx : Array Value} (h : Snap w sb so cap O hm base db nm ow N S keys G vs) (hx : w.heap[x]? = some (.cells cx 59 (0, 0))) (hso : so ≠ x) (hb : ∀ b, b < w.heap.size → b ≠ x → w'.heap[b]? = w.heap[b]?) : Snap w' sb so cap O hm base db nm ow N S keys G vs := by
  obtain ⟨c, h1, h2⟩ := h.objs
  have ne : ∀ {b : Nat} {o : Obj}, w.heap[b]? = some o → (∀ c, o ≠ .cells c 59 (0, 0)) → w'.heap[b]? = some o := fun {b o} hbo hne => by
    rw [hb b (lt_of_heap hbo) (fun e => by subst e; rw [hx] at hbo; exact hne _ (Option.some.inj hbo).symm)]; exact hbo
  refine ⟨ne h.top (fun c e => by cases e), ⟨c, by rw [hb _ (lt_of_heap h1) hso]; exact h1, h2⟩, ne h.o0 (fun c e => by cases e), fun i hi => ne (h.os i hi) (fun c e => by cases e), h.gm.kept (fun b hlt hc => ?_)⟩
  rcases hc with rfl | ⟨cur, hc⟩
  · obtain ⟨es, ck, h1, _⟩ := h.gm.map.ex
    rw [h1]; exact ne h1 (fun c e => by cases e)
  · rw [hc]; exact ne hc (fun c e => by cases e)
theorem Snap.c0 (h : Snap w sb so cap O hm base db nm ow N S keys G vs) : w.cell? ⟨sb, 0, none⟩ = some (.string db) := cell_of_block h.top 0
theorem Snap.c1 (h : Snap w sb so cap O hm base db nm ow N S keys G vs) : w.cell? ⟨sb, 1, none⟩ = some (.slice (some ⟨so, 0, none⟩) (N + 1) cap) := cell_of_block h.top 1
theorem Snap.obj (h : Snap w sb so cap O hm base db nm ow N S keys G vs) {i : Nat} (hi : i ≤ N) : w.cell? ⟨so, i, none⟩ = some (Ptr (O i)) := by
  obtain ⟨c, h1, h2⟩ := h.objs
  rw [cell_of_block h1]; exact h2 i hi

set_option maxRecDepth 20000 in
set_option maxHeartbeats 2000000 in
theorem share_any (h : Snap w sb so cap O hm base db nm ow N S keys G vs) (hN : N ≤ 65536) :
    Calls Try.prog 12 #[Ptr sb] w fun e w' => e = .returned (Ptr (w.heap.size + 1)) ∧ Snap w' (w.heap.size + 1) w.heap.size (N + 1) O hm base db nm ow N S keys G vs ∧ Snap w' sb so cap O hm base db nm ow N S keys G vs ∧ Below w.heap.size w w' := by
  have c0 := h.c0
  have c1 := h.c1
  obtain ⟨Z, hZ, hmk⟩ := make_blk Try.underlying58 info59 (by decide) (by decide) (N + 1) (by omega) w
  have hsrc : Hid (∀ i, i ≤ N → (w.alloc (.cells Z 59)).cell? ⟨so, i, none⟩ = some (Ptr (O i))) := fun i hi => cell_later ((Below.refl _ _).alloc (Nat.le_refl _) _) (h.obj hi)
  have c0' : (w.alloc (.cells Z 59)).cell? ⟨sb, 0, none⟩ = some (.string db) := cell_later ((Below.refl _ _).alloc (Nat.le_refl _) _) c0
  have c1' : (w.alloc (.cells Z 59)).cell? ⟨sb, 1, none⟩ = some (.slice (some ⟨so, 0, none⟩) (N + 1) cap) := cell_later ((Below.refl _ _).alloc (Nat.le_refl _) _) c1
  have HS : Hid (Snap w sb so cap O hm base db nm ow N S keys G vs) := h
  rw [show ((N + 1 : Nat) : Int) = (N : Int) + 1 from by omega] at hmk
  clear h
  go_enter Try.func12, Try.ntmps12
  go_wp2_with (first | (refine wpList_copy_objs (by rfl) (.tmp 10) (.tmp 14) (by rfl) w.heap.size so N cap O Z (heap_alloc_new _ _) (by omega) (by rfl) (by rfl) hsrc.out ?_; intro W1 hrow hfar hbel hsz1; have hd0 : W1.cell? ⟨sb, 0, none⟩ = some (.string db) := by (rw [← c0']; have hne : sb ≠ w.heap.size := (Nat.ne_of_lt (lt_of_heap HS.out.top)); simp only [World.cell?, hfar sb hne])) | fail)
  go_ret
  have hold : ∀ b, b < w.heap.size → W1.heap[b]? = w.heap[b]? := fun b hb => by rw [hfar b (Nat.ne_of_lt hb), Below.heap_alloc _ _ _ hb]
  have hs1 : W1.heap.size = w.heap.size + 1 := by rw [hsz1, World.size_alloc]
  have hold2 : ∀ b, b < w.heap.size → (W1.alloc (.cells #[.string db, .slice (some ⟨w.heap.size, 0, none⟩) (N + 1) (N + 1)] 64)).heap[b]? = w.heap[b]? := fun b hb => by rw [Below.heap_alloc _ _ _ (by omega), hold b hb]
  have hS2 := HS.out.later hold2
  refine ⟨?_, ⟨?_, ⟨(ptrs O N).toArray, ?_, fun i hi => ?_⟩, hS2.o0, hS2.os, hS2.gm⟩, hS2, ?_⟩
  · rw [← hs1]; rfl
  · have := heap_alloc_new W1 (.cells #[.string db, .slice (some ⟨w.heap.size, 0, none⟩) (N + 1) (N + 1)] 64)
    rw [hs1] at this
    exact this
  · rw [Below.heap_alloc _ _ _ (by omega)]; exact hrow
  · rw [List.getElem?_toArray]; exact ptrs_get O N hi
  · exact (((Below.refl _ _).alloc (Nat.le_refl _) _).trans hbel).alloc (by omega) _

theorem database_any (h : Snap w sb so cap O hm base db nm ow N S keys G vs) : Calls Try.prog 14 #[Ptr sb] w fun e w' => e = .returned (.string db) ∧ w' = w := by
  have c0 := h.c0
  clear h
  go_enter Try.func14, Try.ntmps14
  go_wp2
  go_ret
  exact ⟨rfl, rfl⟩
theorem len_any (h : Snap w sb so cap O hm base db nm ow N S keys G vs) : Calls Try.prog 23 #[Ptr sb] w fun e w' => e = .returned (.int .i64 ((N : Int) + 1)) ∧ w' = w := by
  have c0 := h.c1
  clear h
  go_enter Try.func23, Try.ntmps23
  go_wp2
  go_ret
  exact ⟨by simp, rfl⟩
theorem info62 : (Try.prog.info? 62).map (·.size) = some 4 := by kernel_rfl
theorem equal59_same (a : Addr) (w : World) : (binOp .eql 59 (.pointer (some a)) (.pointer (some a))).run Try.prog w = .ok (.bool true) w := by
  obtain ⟨j, h1, h2⟩ := Option.map_eq_some_iff.1 info62
  have h : ∀ d : Nat, (Op.equalIn (d + 1) 59 (.pointer (some a)) (.pointer (some a))).run Try.prog w = .ok true w := fun d => by
    simp [Op.equalIn, run_underlying Try.underlying59, sizeOf, typeInfo, h1, run_sameAddr_same]
  have h9 := h 9999
  simp only [binOp]
  simp [Op.equal, Op.maxDepth, h9]

set_option maxRecDepth 20000 in
set_option maxHeartbeats 2000000 in
theorem same_any {sb2 so2 cap2 : Nat} {db2 nm2 ow2 : ByteArray} {hm2 base2 : Nat} {keys2 : List ByteArray} {G2 : ByteArray → List Value} {vs2 : ByteArray → Value} {i : Nat}
    (h1 : w.cell? ⟨sb2, 1, none⟩ = some (.slice (some ⟨so2, 0, none⟩) (N + 1) cap2)) (h2 : w.cell? ⟨so2, i, none⟩ = some (Ptr (O i)))
    (h : Snap w sb so cap O hm base db nm ow N S keys G vs) (hi : i ≤ N) (hN : N ≤ 65536) :
    Calls Try.prog 16 #[Ptr sb2, Ptr sb, .int .i64 i] w fun e w' => e = .returned (.bool true) ∧ Below w.heap.size w w' := by
  have H0 : Hid (w.drew.cell? ⟨sb2, 1, none⟩ = some (.slice (some ⟨so2, 0, none⟩) (N + 1) cap2) ∧ w.drew.cell? ⟨so2, i, none⟩ = some (Ptr (O i)) ∧ w.drew.cell? ⟨sb, 1, none⟩ = some (.slice (some ⟨so, 0, none⟩) (N + 1) cap) ∧ w.drew.cell? ⟨so, i, none⟩ = some (Ptr (O i))) := ⟨h1, h2, h.c1, h.obj hi⟩
  have hI : (i : Int) < (N : Int) + 1 := by omega
  have hEq := equal59_same ⟨O i, 0, none⟩
  clear h h1 h2
  go_enter Try.func16, Try.ntmps16
  go_wp2
  go_region_held3 (fun w' => w'.cell? ⟨sb2, 1, none⟩ = some (.slice (some ⟨so2, 0, none⟩) (N + 1) cap2) ∧ w'.cell? ⟨so2, i, none⟩ = some (Ptr (O i)) ∧ w'.cell? ⟨sb, 1, none⟩ = some (.slice (some ⟨so, 0, none⟩) (N + 1) cap) ∧ w'.cell? ⟨so, i, none⟩ = some (Ptr (O i))) (first | exact H0.out | assumption) (fail)
  go_wp2
  go_ret
  exact ⟨rfl, (Below.refl _ _).drew⟩
end
end Go.Proofs.Qxb6602344a
