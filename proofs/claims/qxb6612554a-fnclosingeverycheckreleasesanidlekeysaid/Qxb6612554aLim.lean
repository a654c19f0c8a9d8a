import Derived.Test.Qxb6612554aKeys
import Derived.Test.Qxb6612554aTimes
namespace Go.Proofs.Qxb6612554a
open Go.ChangeShapes Go.WideShapes Go.ChangeAt Go.RowKit
set_option linter.unusedVariables false

/-- What a Limiter knows of one key: failures, last failure, last attempt, in flight. -/
structure Rec where
  f : Int
  lf : Int
  la : Int
  fl : Int
/-- An int, an int64. -/
def Rec.ok (r : Rec) : Prop := In64 r.f ∧ In64 r.lf ∧ In64 r.la ∧ In64 r.fl

/-- The nine cells of an entry behind its key. -/
def entT (r : Rec) : List Value := [.int .i64 r.f, .int .u64 (r.lf % 1000000000), .int .i64 (r.lf / 1000000000), .pointer none, .int .u64 (r.la % 1000000000), .int .i64 (r.la / 1000000000), .pointer none, .int .i64 r.fl, .slice none 0 0]
/-- AN ENTRY's 41 CELLS. -/
def entC (i : Nat) (r : Rec) : List Value := kl i ++ entT r
theorem entC_length (i : Nat) (r : Rec) : (entC i r).length = 41 := by simp [entC, entT, kl_length]
theorem entC_key (i : Nat) (r : Rec) (j : Nat) (hj : j < 32) : (entC i r)[j]? = (kl i)[j]? := by
  unfold entC
  rw [List.getElem?_append_left (by rw [kl_length]; exact hj)]
theorem entC_rest (i : Nat) (r : Rec) (j : Nat) : (entC i r)[32 + j]? = (entT r)[j]? := by
  unfold entC
  rw [List.getElem?_append_right (by rw [kl_length]; omega), kl_length]
  congr 1
  omega

/-- What an element holds. -/
def Vof (N : Nat → Nat) : Option Nat → Value
  | none => .nilIface
  | some i => .iface 95 (Ptr (N i))

/-- A LIMITER IN MEMORY: where its parts lie, and what its entries hold. -/
structure LD where
  B : Nat
  bl : Nat
  bm : Nat
  bL : Nat
  bt : Nat
  E : Nat → Nat
  N : Nat → Nat
  n : Nat
  fd : Nat → Rec
  now : Int
  mu : Int

/-- Its blocks. -/
def LD.blk (D : LD) (k : Nat) : Prop := k = D.bl ∨ k = D.bm ∨ k = D.bt ∨ LB D.bL D.E D.n k ∨ ∃ j, j < D.n ∧ k = D.N j

structure Lim (w : World) (D : LD) (ord : List Nat) : Prop where
  lim : w.heap[D.bl]? = some (.cells #[.func (.func 55) #[] #[Ptr D.bt], .int .i32 D.mu, .int .u32 0, .map (some D.bm), Ptr D.bL] 91 (0, 0))
  clk : w.heap[D.bt]? = some (.cells (tm D.now) 63 (0, 0))
  lst : Lst w D.bL D.E D.n (Vof D.N) ord
  mp : ∃ es ck ks, w.heap[D.bm]? = some (.map es ck) ∧ Ents D.E es ks ∧ ks.Nodup ∧ ∀ i, i ∈ ks ↔ i ∈ ord
  ent : ∀ i, i < D.n → w.heap[D.N i]? = some (.cells (entC i (D.fd i)).toArray 94 (0, 0))
  inj : ∀ i j, i < D.n → j < D.n → D.N i = D.N j → i = j
  small : D.n ≤ 16384
  lo : ∀ k, D.blk k → D.B ≤ k
  top : D.B ≤ w.heap.size
  fdok : ∀ i, i < D.n → (D.fd i).ok
  nowok : In64 D.now

section
variable {w : World} {D : LD} {ord : List Nat}

theorem Lim.lt (h : Lim w D ord) {i : Nat} (hi : i ∈ ord) : i < D.n := h.lst.lt hi
theorem Lim.blk_lt (h : Lim w D ord) {k : Nat} (hk : D.blk k) : k < w.heap.size := by
  rcases hk with rfl | rfl | rfl | (rfl | ⟨j, hj, rfl⟩) | ⟨j, hj, rfl⟩
  · exact lt_of_heap h.lim
  · obtain ⟨es, ck, ks, hb, _⟩ := h.mp; exact lt_of_heap hb
  · exact lt_of_heap h.clk
  · obtain ⟨nx, pv, lv, hN, _⟩ := h.lst; exact lt_of_heap hN.root
  · obtain ⟨nx, pv, lv, hN, _⟩ := h.lst; exact lt_of_heap (hN.el j hj)
  · exact lt_of_heap (h.ent j hj)
/-- Whatever turns none of its blocks. -/
theorem Lim.fr {w' : World} (h : Lim w D ord) {S : Nat → Prop} (hf : Fr S w w') (hS : ∀ k, D.blk k → ¬ S k) : Lim w' D ord := by
  have old : ∀ k, D.blk k → w'.heap[k]? = w.heap[k]? := fun k hk => hf.block k (h.blk_lt hk) (hS k hk)
  refine ⟨?_, ?_, ?_, ?_, fun i hi => ?_, h.inj, h.small, h.lo, Nat.le_trans h.top hf.size, h.fdok, h.nowok⟩
  · rw [old _ (Or.inl rfl)]; exact h.lim
  · rw [old _ (Or.inr (Or.inr (Or.inl rfl)))]; exact h.clk
  · exact h.lst.fr hf (hS _ (Or.inr (Or.inr (Or.inr (Or.inl (Or.inl rfl)))))) (fun i hi => hS _ (Or.inr (Or.inr (Or.inr (Or.inl (Or.inr ⟨i, hi, rfl⟩))))))
  · rw [old _ (Or.inr (Or.inl rfl))]; exact h.mp
  · rw [old _ (Or.inr (Or.inr (Or.inr (Or.inr ⟨i, hi, rfl⟩))))]; exact h.ent i hi
/-- New blocks turn nothing. -/
theorem Lim.below {w' : World} (h : Lim w D ord) (hb : Below w.heap.size w w') : Lim w' D ord :=
  h.fr (Fr.of_below hb (fun _ => False) (fun k hk hle => by omega)) (fun _ _ hf => hf)
theorem Lim.sim {w' : World} (h : Lim w D ord) (hs : Sim w' w) : Lim w' D ord := h.fr (Fr.of_sim hs (fun _ => False)) (fun _ _ hf => hf)
theorem Lim.below_of_fr {w' : World} (h : Lim w D ord) (hf : Fr D.blk w w') : Below D.B w w' := hf.below h.top h.lo

theorem Lim.c3 (h : Lim w D ord) : w.cell? ⟨D.bl, 3, none⟩ = some (.map (some D.bm)) := cell_of_block h.lim 3
theorem Lim.c4 (h : Lim w D ord) : w.cell? ⟨D.bl, 4, none⟩ = some (Ptr D.bL) := cell_of_block h.lim 4
theorem Lim.val (h : Lim w D ord) {i : Nat} (hi : i < D.n) : w.cell? ⟨D.E i, 3, none⟩ = some (.iface 95 (Ptr (D.N i))) := by
  obtain ⟨nx, pv, lv, hN, _⟩ := h.lst
  exact hN.c3 (x := some i) hi
theorem Lim.key (h : Lim w D ord) {i : Nat} (hi : i < D.n) : w.rangeAt (D.N i) 0 (kl i) := by
  intro j v hv
  have hj : j < 32 := by
    have := (List.getElem?_eq_some_iff.1 hv).1
    rw [kl_length] at this
    exact this
  rw [Nat.zero_add, cell_of_block (h.ent i hi)]
  simp only [List.getElem?_toArray]
  rw [entC_key _ _ _ hj]
  exact hv
theorem Lim.ec (h : Lim w D ord) {i : Nat} (hi : i < D.n) (j : Nat) : w.cell? ⟨D.N i, 32 + j, none⟩ = (entT (D.fd i))[j]? := by
  rw [cell_of_block (h.ent i hi)]
  simp only [List.getElem?_toArray]
  exact entC_rest _ _ _
theorem Lim.ef (h : Lim w D ord) {i : Nat} (hi : i < D.n) (j : Nat) : w.frozen? ⟨D.N i, j, none⟩ = false := frozen_of_block (h.ent i hi) j

/-! ### The readers -/
theorem ta95 (v : Value) (w : World) : (Instr.typeAssert (.iface 95 v) 20 95 false).run Try.prog w = .ok v w := by kernel_rfl
set_option maxHeartbeats 400000 in
theorem ZZFailures_lim (h : Lim w D ord) {i : Nat} (hi : i < D.n) : Calls Try.prog 48 #[Ptr (D.E i)] w fun e w' => e = .returned (.int .i64 (D.fd i).f) ∧ w' = w := by
  have h1 := h.val hi
  have h2 : w.cell? ⟨D.N i, 32, none⟩ = some (.int .i64 (D.fd i).f) := h.ec hi 0
  have hta := ta95
  clear h
  go_enter Try.func48, Try.ntmps48
  go_wp2
  go_ret
  exact ⟨rfl, rfl⟩
set_option maxHeartbeats 400000 in
theorem ZZInFlight_lim (h : Lim w D ord) {i : Nat} (hi : i < D.n) : Calls Try.prog 36 #[Ptr (D.E i)] w fun e w' => e = .returned (.int .i64 (D.fd i).fl) ∧ w' = w := by
  have h1 := h.val hi
  have h2 : w.cell? ⟨D.N i, 39, none⟩ = some (.int .i64 (D.fd i).fl) := h.ec hi 7
  have hta := ta95
  clear h
  go_enter Try.func36, Try.ntmps36
  go_wp2
  go_ret
  exact ⟨rfl, rfl⟩
set_option maxHeartbeats 400000 in
theorem ZZLastFailure_lim (h : Lim w D ord) {i : Nat} (hi : i < D.n) : Calls Try.prog 49 #[Ptr (D.E i)] w fun e w' => e = .returned (.int .i64 (D.fd i).lf) ∧ Below w.heap.size w w' := by
  have h1 := h.val hi
  have h2 : w.cell? ⟨D.N i, 33, none⟩ = some (.int .u64 ((D.fd i).lf % 1000000000)) := h.ec hi 1
  have h3 : w.cell? ⟨D.N i, 34, none⟩ = some (.int .i64 ((D.fd i).lf / 1000000000)) := h.ec hi 2
  have h4 : w.cell? ⟨D.N i, 35, none⟩ = some (.pointer none) := h.ec hi 3
  have hs := sub_any (D.fd i).lf (h.fdok i hi).2.1
  unfold tm at hs
  have hta := ta95
  clear h
  go_enter Try.func49, Try.ntmps49
  go_wp2_with fail
  refine (hs _).mono ?_
  rintro e w' ⟨rfl, hb⟩
  go_wp2
  go_ret
  exact ⟨rfl, hb⟩
set_option maxHeartbeats 400000 in
theorem ZZLastAttempt_lim (h : Lim w D ord) {i : Nat} (hi : i < D.n) : Calls Try.prog 50 #[Ptr (D.E i)] w fun e w' => e = .returned (.int .i64 (D.fd i).la) ∧ Below w.heap.size w w' := by
  have h1 := h.val hi
  have h2 : w.cell? ⟨D.N i, 36, none⟩ = some (.int .u64 ((D.fd i).la % 1000000000)) := h.ec hi 4
  have h3 : w.cell? ⟨D.N i, 37, none⟩ = some (.int .i64 ((D.fd i).la / 1000000000)) := h.ec hi 5
  have h4 : w.cell? ⟨D.N i, 38, none⟩ = some (.pointer none) := h.ec hi 6
  have hs := sub_any (D.fd i).la (h.fdok i hi).2.2.1
  unfold tm at hs
  have hta := ta95
  clear h
  go_enter Try.func50, Try.ntmps50
  go_wp2_with fail
  refine (hs _).mono ?_
  rintro e w' ⟨rfl, hb⟩
  go_wp2
  go_ret
  exact ⟨rfl, hb⟩
set_option maxHeartbeats 400000 in
theorem ZZFront_lim (h : Lim w D ord) : Calls Try.prog 45 #[Ptr D.bl] w fun e w' => e = .returned (elOr D.E ord.head?) ∧ w' = w := by
  have h1 := h.c4
  have hC := Front_lst h.lst
  clear h
  go_enter Try.func45, Try.ntmps45
  go_wp2_with fail
  refine hC.mono ?_
  rintro e w' ⟨rfl, rfl⟩
  go_wp2
  go_ret
  exact ⟨rfl, rfl⟩
set_option maxHeartbeats 400000 in
theorem ZZNext_lim {l1 l2 : List Nat} {i : Nat} (h : Lim w D (l1 ++ i :: l2)) : Calls Try.prog 51 #[Ptr (D.E i)] w fun e w' => e = .returned (elOr D.E l2.head?) ∧ w' = w := by
  have hC := Next_lst h.lst
  clear h
  go_enter Try.func51, Try.ntmps51
  go_wp2_with fail
  refine hC.mono ?_
  rintro e w' ⟨rfl, rfl⟩
  go_wp2
  go_ret
  exact ⟨rfl, rfl⟩
set_option maxHeartbeats 400000 in
theorem ZZListLen_lim (h : Lim w D ord) : Calls Try.prog 53 #[Ptr D.bl] w fun e w' => e = .returned (.int .i64 ord.length) ∧ w' = w := by
  have h1 := h.c4
  have hC := Len_lst h.lst
  clear h
  go_enter Try.func53, Try.ntmps53
  go_wp2_with fail
  refine hC.mono ?_
  rintro e w' ⟨rfl, rfl⟩
  go_wp2
  go_ret
  exact ⟨rfl, rfl⟩

theorem there_alloc (w : World) {c : Array Value} {t : TypeId} {n : Nat} (hn : n ≤ c.size) : (w.alloc (.cells c t)).there w.heap.size 0 n := there_of_block (heap_alloc_new w _) hn
theorem range_alloc {w : World} {b o : Nat} {cs : List Value} (h : w.rangeAt b o cs) (x : Obj) : (w.alloc x).rangeAt b o cs := fun j v hv => cell_later ((Below.refl _ _).alloc (Nat.le_refl _) x) (h j v hv)
theorem range_later {w wx : World} {b o : Nat} {cs : List Value} (hb : Below w.heap.size w wx) (h : w.rangeAt b o cs) : wx.rangeAt b o cs := fun j v hv => cell_later hb (h j v hv)

set_option maxHeartbeats 400000 in
theorem ZZKey_lim (h : Lim w D ord) {i : Nat} (hi : i < D.n) : Calls Try.prog 46 #[Ptr (D.E i)] w fun e w' => e = .returned (kv i) ∧ Below w.heap.size w w' := by
  have h1 := h.val hi
  have h2 : Hid (w.rangeAt (D.N i) 0 (kl i)) := h.key hi
  have hta := ta95
  have hE : D.E i < w.heap.size := World.block_lt_of_cell? _ _ h1
  clear h
  go_enter Try.func46, Try.ntmps46
  go_wp2_with (first
    | (refine wpList_load_mid rfl 49 _ rfl (D.N i) 0 (by rfl) (kl i) _ (range_alloc h2.out _) Try.underlying49 rfl (by rw [kl_length]; exact size49) ?_)
    | (refine wpList_store_mid (by rfl) 49 (.tmp 2) (.tmp 10) (by rfl) w.heap.size 0 (kl i).toArray (by rfl) (by rfl) ?_ (by rw [kl_size]; exact size49) (all_oneCell_toArray (kl_one i)) ?_; (rw [kl_size]; exact there_alloc _ (Nat.le_refl 32))))
  refine bodyPost_ret (v := kv i) (results_cell Try.results46 rfl (run_loadVar_mid _ _ _ 49 (kl i) _ (World.rangeAt_setCells_same _ _ _ _ (by rw [kl_length]; exact there_alloc _ (Nat.le_refl 32))) Try.underlying49 rfl (by rw [kl_length]; exact size49))) rfl ?_
  exact ⟨rfl, below_setCells ((Below.refl _ _).alloc (Nat.le_refl _) _) (Nat.le_refl _) _ _⟩

set_option maxHeartbeats 400000 in
theorem ZZNumKeys_lim (h : Lim w D ord) : Calls Try.prog 52 #[Ptr D.bl] w fun e w' => e = .returned (.int .i64 ord.length) ∧ w' = w := by
  have h1 := h.c3
  obtain ⟨es, ck, ks, hb, hE, hd, hk⟩ := h.mp
  have hl : ks.length = ord.length := by
    have h1 : ks.length ≤ ord.length := List.Nodup.length_le_of_subset hd (fun i hi => (hk i).1 hi)
    have h2 : ord.length ≤ ks.length := List.Nodup.length_le_of_subset h.lst.nodup (fun i hi => (hk i).2 hi)
    omega
  have hlen : (Builtin.len_ #[88] 3 #[.map (some D.bm)]).run Try.prog w = .ok (.int .i64 ord.length) w := by
    have hs := hE.size
    simp [Builtin.len_, run_underlying Try.underlying88, MapKept.run_getObj_map hb, goInt]
    omega
  clear h hE hd hk hb hl
  go_enter Try.func52, Try.ntmps52
  go_wp2
  go_ret
  exact ⟨rfl, rfl⟩
end
end Go.Proofs.Qxb6612554a
