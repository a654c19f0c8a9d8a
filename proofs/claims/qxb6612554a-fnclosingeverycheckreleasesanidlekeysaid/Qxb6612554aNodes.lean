import Derived.Test.Qxb6612554aRing
namespace Go.Proofs.Qxb6612554a
open Go.RowKit
set_option linter.unusedVariables false

/-- Worlds that part in the count of draws alone. -/
structure Sim (w' w : World) : Prop where
  heap : w'.heap = w.heap
  os : w'.os = w.os
  tape : w'.tape = w.tape
  output : w'.output = w.output
theorem Sim.refl (w : World) : Sim w w := ⟨rfl, rfl, rfl, rfl⟩
theorem Sim.drew (w : World) : Sim w.drew w := ⟨rfl, rfl, rfl, rfl⟩
theorem Sim.drew2 (w : World) : Sim w.drew.drew w := ⟨rfl, rfl, rfl, rfl⟩
theorem Sim.trans {a b c : World} (h : Sim a b) (k : Sim b c) : Sim a c := ⟨h.heap.trans k.heap, h.os.trans k.os, h.tape.trans k.tape, h.output.trans k.output⟩

/-- Nothing has turned but in the blocks of S, and new ones. -/
structure Fr (S : Nat → Prop) (w w' : World) : Prop where
  os : w'.os = w.os
  tape : w'.tape = w.tape
  output : w'.output = w.output
  size : w.heap.size ≤ w'.heap.size
  block : ∀ k, k < w.heap.size → ¬ S k → w'.heap[k]? = w.heap[k]?
theorem Fr.refl (S : Nat → Prop) (w : World) : Fr S w w := ⟨rfl, rfl, rfl, Nat.le_refl _, fun _ _ _ => rfl⟩
theorem Fr.trans {S : Nat → Prop} {a b c : World} (h : Fr S a b) (k : Fr S b c) : Fr S a c :=
  ⟨k.os.trans h.os, k.tape.trans h.tape, k.output.trans h.output, Nat.le_trans h.size k.size, fun i hi hS => (k.block i (Nat.lt_of_lt_of_le hi h.size) hS).trans (h.block i hi hS)⟩
theorem Fr.mono {S T : Nat → Prop} {a b : World} (h : Fr S a b) (hST : ∀ k, k < a.heap.size → S k → T k) : Fr T a b :=
  ⟨h.os, h.tape, h.output, h.size, fun k hk hT => h.block k hk (fun hS => hT (hST k hk hS))⟩
/-- Two steps, each with blocks of its own; what the second writes was new, or T. -/
theorem Fr.trans' {S T U : Nat → Prop} {a b c : World} (h : Fr S a b) (k : Fr T b c) (hS : ∀ k, k < a.heap.size → S k → U k) (hT : ∀ k, k < a.heap.size → T k → U k) : Fr U a c :=
  ⟨k.os.trans h.os, k.tape.trans h.tape, k.output.trans h.output, Nat.le_trans h.size k.size, fun i hi hu => (k.block i (Nat.lt_of_lt_of_le hi h.size) (fun t => hu (hT i hi t))).trans (h.block i hi (fun s => hu (hS i hi s)))⟩
theorem Fr.of_below {w w' : World} {B : Nat} (h : Below B w w') (S : Nat → Prop) (hB : ∀ k, k < w.heap.size → B ≤ k → S k) : Fr S w w' :=
  ⟨h.os, h.tape, h.output, h.size, fun k hk hS => h.block k (Nat.lt_of_not_le (fun hle => hS (hB k hk hle)))⟩
theorem Fr.of_sim {w w' : World} (h : Sim w' w) (S : Nat → Prop) : Fr S w w' :=
  ⟨h.os, h.tape, h.output, by rw [h.heap]; exact Nat.le_refl _, fun k _ _ => by rw [h.heap]⟩
theorem Fr.below {S : Nat → Prop} {w w' : World} (h : Fr S w w') {B : Nat} (hB : B ≤ w.heap.size) (hS : ∀ k, S k → B ≤ k) : Below B w w' :=
  ⟨h.os, h.tape, h.output, h.size, fun k hk => h.block k (Nat.lt_of_lt_of_le hk hB) (fun s => absurd (hS k s) (by omega))⟩
theorem Fr.setCell {S : Nat → Prop} (w : World) {a : Addr} (ha : S a.block) (v : Value) : Fr S w (w.setCell a v) :=
  ⟨rfl, rfl, rfl, by simp, fun k _ hk => Below.heap_setCell _ _ _ _ (fun e => hk (e ▸ ha))⟩
theorem Fr.alloc (S : Nat → Prop) (w : World) (o : Obj) : Fr S w (w.alloc o) :=
  ⟨rfl, rfl, rfl, by simp, fun k hk _ => Below.heap_alloc _ _ _ hk⟩

/-- A store more, into a block of S or a new one. -/
theorem Fr.set {S : Nat → Prop} {w W : World} (h : Fr S w W) {a : Addr} (ha : S a.block ∨ w.heap.size ≤ a.block) (v : Value) : Fr S w (W.setCell a v) :=
  ⟨h.os, h.tape, h.output, by simpa using h.size, fun k hk hS => by
    have hne : k ≠ a.block := by
      rcases ha with ha | ha
      · exact fun e => hS (e ▸ ha)
      · omega
    rw [Below.heap_setCell _ _ _ _ hne]; exact h.block k hk hS⟩
theorem Fr.new {S : Nat → Prop} {w W : World} (h : Fr S w W) (o : Obj) : Fr S w (W.alloc o) := h.trans (Fr.alloc S W o)

/-- A block of cells behind a store into it. -/
theorem heap_setCell_at {w : World} {b o : Nat} {c : Array Value} {t : TypeId} {f : Nat × Nat} (h : w.heap[b]? = some (.cells c t f)) (v : Value) :
    (w.setCell ⟨b, o, none⟩ v).heap[b]? = some (.cells (c.setIfInBounds o v) t f) := by
  simp only [World.setCell, Array.getElem?_modify]
  simp [h]
theorem heap_setCell_far {w : World} {b k o : Nat} (h : k ≠ b) (v : Value) : (w.setCell ⟨b, o, none⟩ v).heap[k]? = w.heap[k]? := Below.heap_setCell _ _ _ _ h
theorem cell_of_block {w : World} {b : Nat} {c : Array Value} {t : TypeId} {f : Nat × Nat} (h : w.heap[b]? = some (.cells c t f)) (o : Nat) : w.cell? ⟨b, o, none⟩ = c[o]? := by
  simp [World.cell?, h]
theorem frozen_of_block {w : World} {b : Nat} {c : Array Value} {t : TypeId} (h : w.heap[b]? = some (.cells c t (0, 0))) (o : Nat) : w.frozen? ⟨b, o, none⟩ = false := by
  simp [World.frozen?, h]
theorem lt_of_heap {w : World} {b : Nat} {o : Obj} (h : w.heap[b]? = some o) : b < w.heap.size := by
  rcases Nat.lt_or_ge b w.heap.size with h' | h'
  · exact h'
  · rw [Array.getElem?_eq_none h'] at h; cases h
/-- Blocks of different types are different blocks. -/
theorem block_ne {w : World} {b b' : Nat} {c c' : Array Value} {t t' : TypeId} {f f' : Nat × Nat} (h : w.heap[b]? = some (.cells c t f)) (h' : w.heap[b']? = some (.cells c' t' f')) (ht : t ≠ t') : b ≠ b' := by
  intro e
  subst e
  rw [h] at h'
  cases h'
  exact ht rfl

/-- THE NODES OF THE LIST IN MEMORY: the root and n elements, each cell as the four functions say. -/
structure NS (w : World) (bL : Nat) (E : Nat → Nat) (n : Nat) (nx pv lv V : Option Nat → Value) (len : Int) : Prop where
  root : w.heap[bL]? = some (.cells #[nx none, pv none, lv none, V none, .int .i64 len] 110 (0, 0))
  el : ∀ i, i < n → w.heap[E i]? = some (.cells #[nx (some i), pv (some i), lv (some i), V (some i)] 97 (0, 0))
  inj : ∀ i j, i < n → j < n → E i = E j → i = j

/-- A node of the list. -/
def Live (n : Nat) : Option Nat → Prop
  | none => True
  | some i => i < n

section
variable {w : World} {bL : Nat} {E : Nat → Nat} {n : Nat} {nx pv lv V : Option Nat → Value} {len : Int}

theorem NS.sim {w' : World} (h : NS w bL E n nx pv lv V len) (hs : Sim w' w) : NS w' bL E n nx pv lv V len :=
  ⟨by rw [hs.heap]; exact h.root, fun i hi => by rw [hs.heap]; exact h.el i hi, h.inj⟩
theorem NS.far (h : NS w bL E n nx pv lv V len) {i : Nat} (hi : i < n) : E i ≠ bL := block_ne (h.el i hi) h.root (by decide)
theorem NS.nd_inj (h : NS w bL E n nx pv lv V len) {x y : Option Nat} (hx : Live n x) (hy : Live n y) (e : nd bL E x = nd bL E y) : x = y := by
  cases x <;> cases y
  · rfl
  · exact absurd e.symm (h.far hy)
  · exact absurd e (h.far hx)
  · rename_i a b
    rw [h.inj a b hx hy e]
theorem NS.c0 (h : NS w bL E n nx pv lv V len) {x : Option Nat} (hx : Live n x) : w.cell? ⟨nd bL E x, 0, none⟩ = some (nx x) := by
  cases x
  · exact cell_of_block h.root 0
  · exact cell_of_block (h.el _ hx) 0
theorem NS.c1 (h : NS w bL E n nx pv lv V len) {x : Option Nat} (hx : Live n x) : w.cell? ⟨nd bL E x, 1, none⟩ = some (pv x) := by
  cases x
  · exact cell_of_block h.root 1
  · exact cell_of_block (h.el _ hx) 1
theorem NS.c2 (h : NS w bL E n nx pv lv V len) {x : Option Nat} (hx : Live n x) : w.cell? ⟨nd bL E x, 2, none⟩ = some (lv x) := by
  cases x
  · exact cell_of_block h.root 2
  · exact cell_of_block (h.el _ hx) 2
theorem NS.c3 (h : NS w bL E n nx pv lv V len) {x : Option Nat} (hx : Live n x) : w.cell? ⟨nd bL E x, 3, none⟩ = some (V x) := by
  cases x
  · exact cell_of_block h.root 3
  · exact cell_of_block (h.el _ hx) 3
theorem NS.c4 (h : NS w bL E n nx pv lv V len) : w.cell? ⟨bL, 4, none⟩ = some (.int .i64 len) := cell_of_block h.root 4
theorem NS.fz (h : NS w bL E n nx pv lv V len) {x : Option Nat} (hx : Live n x) (o : Nat) : w.frozen? ⟨nd bL E x, o, none⟩ = false := by
  cases x
  · exact frozen_of_block h.root o
  · exact frozen_of_block (h.el _ hx) o

theorem NS.setNext (h : NS w bL E n nx pv lv V len) {x : Option Nat} (hx : Live n x) (v : Value) : NS (w.setCell ⟨nd bL E x, 0, none⟩ v) bL E n (upd nx x v) pv lv V len := by
  cases x with
  | none =>
    refine ⟨?_, fun i hi => ?_, h.inj⟩
    · rw [show nd bL E none = bL from rfl, heap_setCell_at h.root]; simp [upd]
    · rw [show nd bL E none = bL from rfl, heap_setCell_far (h.far hi), h.el i hi]; simp [upd]
  | some j =>
    refine ⟨?_, fun i hi => ?_, h.inj⟩
    · rw [show nd bL E (some j) = E j from rfl, heap_setCell_far (Ne.symm (h.far hx)), h.root]; simp [upd]
    · by_cases e : i = j
      · subst e; rw [show nd bL E (some i) = E i from rfl, heap_setCell_at (h.el i hi)]; simp [upd]
      · rw [show nd bL E (some j) = E j from rfl, heap_setCell_far (fun e' => e (h.inj i j hi hx e')), h.el i hi]; simp [upd, e]
theorem NS.setPrev (h : NS w bL E n nx pv lv V len) {x : Option Nat} (hx : Live n x) (v : Value) : NS (w.setCell ⟨nd bL E x, 1, none⟩ v) bL E n nx (upd pv x v) lv V len := by
  cases x with
  | none =>
    refine ⟨?_, fun i hi => ?_, h.inj⟩
    · rw [show nd bL E none = bL from rfl, heap_setCell_at h.root]; simp [upd]
    · rw [show nd bL E none = bL from rfl, heap_setCell_far (h.far hi), h.el i hi]; simp [upd]
  | some j =>
    refine ⟨?_, fun i hi => ?_, h.inj⟩
    · rw [show nd bL E (some j) = E j from rfl, heap_setCell_far (Ne.symm (h.far hx)), h.root]; simp [upd]
    · by_cases e : i = j
      · subst e; rw [show nd bL E (some i) = E i from rfl, heap_setCell_at (h.el i hi)]; simp [upd]
      · rw [show nd bL E (some j) = E j from rfl, heap_setCell_far (fun e' => e (h.inj i j hi hx e')), h.el i hi]; simp [upd, e]
theorem NS.setList (h : NS w bL E n nx pv lv V len) {j : Nat} (hx : j < n) (v : Value) : NS (w.setCell ⟨E j, 2, none⟩ v) bL E n nx pv (upd lv (some j) v) V len := by
  refine ⟨?_, fun i hi => ?_, h.inj⟩
  · rw [heap_setCell_far (Ne.symm (h.far hx)), h.root]; simp [upd]
  · by_cases e : i = j
    · subst e; rw [heap_setCell_at (h.el i hi)]; simp [upd]
    · rw [heap_setCell_far (fun e' => e (h.inj i j hi hx e')), h.el i hi]; simp [upd, e]
theorem NS.setLen (h : NS w bL E n nx pv lv V len) (m : Int) : NS (w.setCell ⟨bL, 4, none⟩ (.int .i64 m)) bL E n nx pv lv V m := by
  refine ⟨?_, fun i hi => ?_, h.inj⟩
  · rw [heap_setCell_at h.root]; simp
  · rw [heap_setCell_far (h.far hi), h.el i hi]
/-- One element more, in a block of its own. -/
theorem NS.grow {w' : World} (h : NS w bL E n nx pv lv V len) {S : Nat → Prop} (hf : Fr S w w') (hS : ∀ k, S k → w.heap.size ≤ k) {b : Nat} (hb : w.heap.size ≤ b) {v : Value}
    (hn : w'.heap[b]? = some (.cells #[.pointer none, .pointer none, .pointer none, v] 97 (0, 0))) :
    NS w' bL (fun i => if i = n then b else E i) (n + 1) (upd nx (some n) (.pointer none)) (upd pv (some n) (.pointer none)) (upd lv (some n) (.pointer none)) (upd V (some n) v) len := by
  have old : ∀ k, k < w.heap.size → w'.heap[k]? = w.heap[k]? := fun k hk => hf.block k hk (fun s => absurd (hS k s) (by omega))
  refine ⟨?_, fun i hi => ?_, fun i j hi hj e => ?_⟩
  · rw [old _ (lt_of_heap h.root), h.root]; simp [upd]
  · by_cases e : i = n
    · subst e; simp [upd, hn]
    · have hi' : i < n := by omega
      simp only [if_neg e]
      rw [old _ (lt_of_heap (h.el i hi')), h.el i hi']; simp [upd, e]
  · by_cases e1 : i = n
    · by_cases e2 : j = n
      · omega
      · have := lt_of_heap (h.el j (by omega))
        simp [e1, e2] at e; omega
    · by_cases e2 : j = n
      · have := lt_of_heap (h.el i (by omega))
        simp [e1, e2] at e; omega
      · simp [e1, e2] at e
        exact h.inj i j (by omega) (by omega) e
/-- Whatever turns none of these blocks. -/
theorem NS.fr {w' : World} (h : NS w bL E n nx pv lv V len) {S : Nat → Prop} (hf : Fr S w w') (h1 : ¬ S bL) (h2 : ∀ i, i < n → ¬ S (E i)) : NS w' bL E n nx pv lv V len :=
  ⟨by rw [hf.block _ (lt_of_heap h.root) h1]; exact h.root, fun i hi => by rw [hf.block _ (lt_of_heap (h.el i hi)) (h2 i hi)]; exact h.el i hi, h.inj⟩
end

/-- THE LIST: the elements of 'ord' in that order; whoever is not in it has no list. -/
def Lst (w : World) (bL : Nat) (E : Nat → Nat) (n : Nat) (V : Option Nat → Value) (ord : List Nat) : Prop :=
  ∃ nx pv lv, NS w bL E n nx pv lv V ord.length ∧ Ring bL E nx pv none ord ∧ ord.Nodup ∧ (∀ i ∈ ord, i < n ∧ lv (some i) = Ptr bL) ∧ (∀ i, i < n → i ∉ ord → lv (some i) = .pointer none)
/-- The blocks of the list. -/
def LB (bL : Nat) (E : Nat → Nat) (n : Nat) (k : Nat) : Prop := k = bL ∨ ∃ j, j < n ∧ k = E j

section
variable {w : World} {bL : Nat} {E : Nat → Nat} {n : Nat} {V : Option Nat → Value} {ord : List Nat}
theorem Lst.mk {nx pv lv : Option Nat → Value} {m : Int} (hN : NS w bL E n nx pv lv V m) (hm : m = ord.length) (hR : Ring bL E nx pv none ord) (hd : ord.Nodup) (hin : ∀ i ∈ ord, i < n ∧ lv (some i) = Ptr bL)
    (hout : ∀ i, i < n → i ∉ ord → lv (some i) = .pointer none) : Lst w bL E n V ord := ⟨nx, pv, lv, hm ▸ hN, hR, hd, hin, hout⟩
theorem Lst.sim {w' : World} (h : Lst w bL E n V ord) (hs : Sim w' w) : Lst w' bL E n V ord := by
  obtain ⟨nx, pv, lv, a, b⟩ := h
  exact ⟨nx, pv, lv, a.sim hs, b⟩
theorem Lst.fr {w' : World} (h : Lst w bL E n V ord) {S : Nat → Prop} (hf : Fr S w w') (h1 : ¬ S bL) (h2 : ∀ i, i < n → ¬ S (E i)) : Lst w' bL E n V ord := by
  obtain ⟨nx, pv, lv, a, b⟩ := h
  exact ⟨nx, pv, lv, a.fr hf h1 h2, b⟩
theorem Lst.lt (h : Lst w bL E n V ord) {i : Nat} (hi : i ∈ ord) : i < n := by
  obtain ⟨nx, pv, lv, _, _, _, a, _⟩ := h
  exact (a i hi).1
theorem Lst.nodup (h : Lst w bL E n V ord) : ord.Nodup := by
  obtain ⟨nx, pv, lv, _, _, a, _⟩ := h
  exact a
theorem Lst.live_root (n : Nat) : Live n none := trivial
theorem nd_none (bL : Nat) (E : Nat → Nat) : nd bL E none = bL := rfl
theorem nd_some (bL : Nat) (E : Nat → Nat) (i : Nat) : nd bL E (some i) = E i := rfl
/-- No more elements than the memory has blocks. -/
theorem Lst.len_le (h : Lst w bL E n V ord) : ord.length ≤ n := by
  have hn := h.nodup
  have hlt : ∀ i ∈ ord, i < n := fun i hi => h.lt hi
  have : ord.length ≤ (List.range n).length := List.Nodup.length_le_of_subset hn (fun i hi => List.mem_range.2 (hlt i hi))
  simpa using this
end
end Go.Proofs.Qxb6612554a
