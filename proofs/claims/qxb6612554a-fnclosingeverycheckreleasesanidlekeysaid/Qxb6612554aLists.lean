import Derived.Test.Qxb6612554aCells
namespace Go.Proofs.Qxb6612554a
open Go.ChangeShapes Go.WideShapes Go.ChangeAt Go.RowKit
set_option linter.unusedVariables false

/-! ### the same, of the list as a whole -/
/-- What the root's 'prev' holds. -/
def pvRoot (w : World) (bL : Nat) : Option Value := w.cell? ⟨bL, 1, none⟩
section
variable {w : World} {bL : Nat} {E : Nat → Nat} {n : Nat} {V : Option Nat → Value} {ord : List Nat}

theorem live_of {l : List Nat} (h : ∀ i ∈ l, i < n) {p : Option Nat} (hp : p = none ∨ ∃ y ∈ l, p = some y) : Live n p := by
  rcases hp with rfl | ⟨y, hy, rfl⟩
  · trivial
  · exact h y hy

theorem LB.nd {p : Option Nat} (hp : Live n p) : LB bL E n (nd bL E p) := by
  cases p with
  | none => exact Or.inl rfl
  | some i => exact Or.inr ⟨i, hp, rfl⟩

/-- '(*List).remove' -/
theorem remove_lst (h : Lst w bL E n V ord) (hn : n < 1000000) {i : Nat} (hi : i ∈ ord) :
    Calls Try.prog 77 #[Ptr bL, Ptr (E i)] w fun e w' => e = .returned (.tuple #[]) ∧ Lst w' bL E n V (ord.erase i) ∧ Fr (LB bL E n) w w' := by
  have hlen := h.len_le
  obtain ⟨nx, pv, lv, hN, hR, hnd, hin, hout⟩ := h
  obtain ⟨p, q, hp, hq, hpi, hqi, c1, c2, c3, _⟩ := hR.remove hi hnd (by simp) (fun y _ => by simp)
  have hlt : ∀ i ∈ ord, i < n := fun i hi => (hin i hi).1
  have hpl : Live n p := live_of hlt hp
  have hql : Live n q := live_of hlt hq
  have hil : Live n (some i) := hlt i hi
  have e0 := hN.c0 hil
  have e1 := hN.c1 hil
  rw [c1] at e0
  rw [c2] at e1
  refine (remove_cells bL (E i) (nd bL E p) (nd bL E q) ord.length (lv (some i)) (pv q) (nx p) w (fun e => hpi (hN.nd_inj hpl hil e)) (fun e => hqi (hN.nd_inj hql hil e)) (fun e => hN.far (hlt i hi) e.symm)
    e0 e1 (hN.c2 hil) (hN.c0 hpl) (hN.c1 hql) hN.c4 (hN.fz hil 0) (hN.fz hil 1) (hN.fz hil 2) (hN.fz hpl 0) (hN.fz hql 1) (hN.fz (x := none) trivial 4) (by omega) (by omega)).mono ?_
  rintro e w' ⟨rfl, hs⟩
  refine ⟨rfl, ?_, ?_⟩
  · have hN' := ((((((hN.setNext hpl (Ptr (nd bL E q))).setPrev hql (Ptr (nd bL E p))).setNext hil (.pointer none)).setPrev hil (.pointer none)).setList hil (.pointer none)).setLen (ord.length - 1)).sim hs
    refine Lst.mk hN' ?_ ?_ (hnd.erase i) ?_ ?_
    · have h1 := List.length_erase_of_mem hi
      have h2 := List.length_pos_of_mem hi
      omega
    · refine c3.congr (upd_other _ _ (by simp)) (fun y hy => upd_other _ _ ?_) (upd_other _ _ (by simp)) (fun y hy => upd_other _ _ ?_)
      · intro e
        have : y = i := by simpa using e
        subst this
        exact (List.Nodup.not_mem_erase hnd) hy
      · intro e
        have : y = i := by simpa using e
        subst this
        exact (List.Nodup.not_mem_erase hnd) hy
    · intro j hj
      have hji : j ≠ i := fun e => by subst e; exact (List.Nodup.not_mem_erase hnd) hj
      have hj' := List.mem_of_mem_erase hj
      exact ⟨hlt j hj', by rw [upd_other _ _ (by simp [hji])]; exact (hin j hj').2⟩
    · intro j hj hj'
      by_cases e : j = i
      · subst e; exact upd_same _ _ _
      · rw [upd_other _ _ (by simp [e])]
        exact hout j hj (fun hh => hj' ((List.mem_erase_of_ne e).2 hh))
  · refine Fr.trans ?_ (Fr.of_sim hs _)
    exact (((((Fr.setCell w (LB.nd hpl) _).trans (Fr.setCell _ (LB.nd hql) _)).trans (Fr.setCell _ (LB.nd hil) _)).trans (Fr.setCell _ (LB.nd hil) _)).trans (Fr.setCell _ (LB.nd hil) _)).trans (Fr.setCell _ (Or.inl rfl) _)

/-- '(*List).Remove': one that is in the list is taken out; one that is not stays out. -/
theorem Remove_lst (h : Lst w bL E n V ord) (hn : n < 1000000) {i : Nat} (hi : i < n) :
    Calls Try.prog 64 #[Ptr bL, Ptr (E i)] w fun e w' => e = .returned (V (some i)) ∧ Lst w' bL E n V (ord.erase i) ∧ Fr (LB bL E n) w w' := by
  have h' := h
  obtain ⟨nx, pv, lv, hN, hR, hnd, hin, hout⟩ := h
  have hil : Live n (some i) := hi
  have e2 := hN.c2 hil
  have e3 := hN.c3 hil
  rw [nd_some] at e2 e3
  by_cases hio : i ∈ ord
  · rw [(hin i hio).2] at e2
    have hcmp := eql_of w (equal89 w hN.root hN.root)
    simp only [decide_true] at hcmp
    clear hN hR hnd hin hout
    go_enter Try.func64, Try.ntmps64
    go_wp2_with fail
    refine (remove_lst h' hn hio).mono ?_
    rintro e w' ⟨rfl, hL, hF⟩
    have e3' : w'.cell? ⟨E i, 3, none⟩ = some (V (some i)) := by
      obtain ⟨nx', pv', lv', hN', _⟩ := hL
      exact hN'.c3 hil
    clear h'
    go_wp2
    go_ret
    exact ⟨rfl, hL, hF⟩
  · rw [hout i hi hio] at e2
    have hcmp := eql_of w (equal_nil_left w Try.underlying89 ⟨bL, 0, none⟩)
    rw [List.erase_of_not_mem hio]
    clear hN hR hnd hin hout
    go_enter Try.func64, Try.ntmps64
    go_wp2
    go_ret
    exact ⟨rfl, h', Fr.refl _ _⟩

/-- One element more at the end: a block of its own. -/
def snocE (E : Nat → Nat) (n b : Nat) : Nat → Nat := fun i => if i = n then b else E i
theorem snocE_new (E : Nat → Nat) (n b : Nat) : snocE E n b n = b := by simp [snocE]
theorem snocE_old (E : Nat → Nat) {n i : Nat} (b : Nat) (h : i < n) : snocE E n b i = E i := by simp [snocE, Nat.ne_of_lt h]

set_option maxHeartbeats 800000 in
theorem insertValue_lst (h : Lst w bL E n V ord) (hn : n < 1000000) (nb : Nat) :
    ∃ p, pvRoot w bL = some (Ptr (nd bL E p)) ∧ Calls Try.prog 72 #[Ptr bL, .iface 95 (Ptr nb), Ptr (nd bL E p)] w fun e w' => e = .returned (Ptr w.heap.size) ∧
      Lst w' bL (snocE E n w.heap.size) (n + 1) (upd V (some n) (.iface 95 (Ptr nb))) (ord ++ [n]) ∧ Fr (LB bL E n) w w' ∧ w.heap.size < w'.heap.size := by
  have hlen := h.len_le
  obtain ⟨nx, pv, lv, hN, hR, hnd, hin, hout⟩ := h
  have hlt : ∀ i ∈ ord, i < n := fun i hi => (hin i hi).1
  have hno : n ∉ ord := fun hh => by have := hlt n hh; omega
  -- the world with the new element's block
  have hw1 : (w.alloc (.cells #[.pointer none, .pointer none, .pointer none, .iface 95 (Ptr nb)] 97)).heap[w.heap.size]? = some (.cells #[.pointer none, .pointer none, .pointer none, .iface 95 (Ptr nb)] 97 (0, 0)) := heap_alloc_new _ _
  have hN1 := hN.grow (Fr.alloc (fun _ => False) w _) (fun k hk => hk.elim) (Nat.le_refl _) hw1
  have hE : (fun i => if i = n then w.heap.size else E i) = snocE E n w.heap.size := rfl
  rw [hE] at hN1
  have hR1 : Ring bL (snocE E n w.heap.size) (upd nx (some n) (.pointer none)) (upd pv (some n) (.pointer none)) none ord := by
    refine (hR.congrE (E' := snocE E n w.heap.size) rfl (fun y hy => snocE_old _ _ (hlt y hy))).congr (upd_other _ _ (by simp)) (fun y hy => upd_other _ _ ?_) (upd_other _ _ (by simp)) (fun y hy => upd_other _ _ ?_)
    · have := hlt y hy; simp; omega
    · have := hlt y hy; simp; omega
  obtain ⟨p, hp, hpn, c1, c2, c3⟩ := hR1.push (i := n) hno hnd (by simp) (fun y _ => by simp)
  have hpl : Live n p := live_of hlt hp
  have hpl1 : Live (n + 1) p := by
    cases p with
    | none => trivial
    | some j => exact Nat.lt_succ_of_lt hpl
  have hnl1 : Live (n + 1) (some n) := Nat.lt_succ_self n
  have hpE : nd bL (snocE E n w.heap.size) p = nd bL E p := by
    cases p with
    | none => rfl
    | some j => exact snocE_old _ _ hpl
  rw [upd_other _ _ (by simp)] at c1
  rw [hpE] at c1
  refine ⟨p, ?_, ?_⟩
  · unfold pvRoot
    rw [← c1]
    exact hN.c1 (x := none) trivial
  have k0 := hN1.c0 hpl1
  rw [c2] at k0
  have ins : Calls Try.prog 84 #[Ptr bL, Ptr w.heap.size, Ptr (nd bL E p)] (w.alloc (.cells #[.pointer none, .pointer none, .pointer none, .iface 95 (Ptr nb)] 97)) fun e w' => e = .returned (Ptr w.heap.size) ∧
      Lst w' bL (snocE E n w.heap.size) (n + 1) (upd V (some n) (.iface 95 (Ptr nb))) (ord ++ [n]) ∧ Fr (LB bL E n) w w' ∧ w.heap.size < w'.heap.size := by
    have eN : nd bL (snocE E n w.heap.size) (some n) = w.heap.size := snocE_new _ _ _
    have m0 := hN1.c0 hnl1
    have m1 := hN1.c1 hnl1
    have m2 := hN1.c2 hnl1
    have z0 := hN1.fz hnl1 0
    have z1 := hN1.fz hnl1 1
    have z2 := hN1.fz hnl1 2
    have zp := hN1.fz hpl1 0
    rw [eN] at m0 m1 m2 z0 z1 z2
    rw [hpE] at k0 zp
    have hbl : bL < w.heap.size := lt_of_heap hN.root
    have hpb : nd bL E p < w.heap.size := by
      have := World.block_lt_of_cell? _ _ (hN.c0 hpl)
      exact this
    refine (insert_cells bL w.heap.size (nd bL E p) bL ord.length _ _ _ _ _ (by omega) (by omega) (by omega) m0 m1 m2 k0 (hN1.c1 (x := none) trivial) hN1.c4 z0 z1 z2 zp (hN1.fz (x := none) trivial 1) (hN1.fz (x := none) trivial 4) (by omega) (by omega)).mono ?_
    rintro e w' ⟨rfl, hs⟩
    subst hs
    refine ⟨rfl, ?_, ?_, ?_⟩
    · have hN' := (((((hN1.setPrev hnl1 (Ptr (nd bL E p))).setNext hnl1 (Ptr bL)).setNext hpl1 (Ptr w.heap.size)).setPrev (x := none) trivial (Ptr w.heap.size)).setList (j := n) (Nat.lt_succ_self n) (Ptr bL)).setLen (ord.length + 1)
      rw [eN, hpE, snocE_new] at hN'
      rw [snocE_new, hpE] at c3
      refine Lst.mk hN' (by simp) c3 ?_ ?_ ?_
      · refine List.nodup_append.2 ⟨hnd, by simp, ?_⟩
        intro a ha b hb e
        have hb' : b = n := by simpa using hb
        have := hlt a ha
        omega
      · intro i hi
        rcases List.mem_append.1 hi with hi | hi
        · have := hlt i hi
          refine ⟨by omega, ?_⟩
          rw [upd_other _ _ (by simp; omega), upd_other _ _ (by simp; omega)]
          exact (hin i hi).2
        · have : i = n := by simpa using hi
          subst this
          exact ⟨by omega, upd_same _ _ _⟩
      · intro i hi hi'
        have h1 : i ≠ n := fun e => hi' (by simp [e])
        rw [upd_other _ _ (by simp; omega), upd_other _ _ (by simp; omega)]
        exact hout i (by omega) (fun hh => hi' (by simp [hh]))
    · have f0 : Fr (LB bL E n) w (w.alloc (.cells #[.pointer none, .pointer none, .pointer none, .iface 95 (Ptr nb)] 97)) := Fr.alloc _ w _
      exact (((((f0.set (Or.inr (Nat.le_refl _)) _).set (Or.inr (Nat.le_refl _)) _).set (Or.inl (LB.nd hpl)) _).set (Or.inl (Or.inl rfl)) _).set (Or.inr (Nat.le_refl _)) _).set (Or.inl (Or.inl rfl)) _
    · simp
  clear hN hN1 hR hR1 hnd hno hw1 hE hlen hp hpn c1 c2 c3 hpl hpl1 hnl1 hpE k0 hin hout hlt
  go_enter Try.func72, Try.ntmps72
  go_wp2_with fail
  refine ins.mono ?_
  rintro e w' ⟨rfl, hL, hF, hs⟩
  go_wp2
  go_ret
  exact ⟨rfl, hL, hF, hs⟩

set_option maxHeartbeats 800000 in
/-- '(*List).PushBack' -/
theorem PushBack_lst (h : Lst w bL E n V ord) (hn : n < 1000000) (nb : Nat) :
    Calls Try.prog 56 #[Ptr bL, .iface 95 (Ptr nb)] w fun e w' => e = .returned (Ptr w.heap.size) ∧
      Lst w' bL (snocE E n w.heap.size) (n + 1) (upd V (some n) (.iface 95 (Ptr nb))) (ord ++ [n]) ∧ Fr (LB bL E n) w w' ∧ w.heap.size < w'.heap.size := by
  obtain ⟨p, hp, hC⟩ := insertValue_lst h hn nb
  unfold pvRoot at hp
  have h0 : w.cell? ⟨bL, 0, none⟩ = some (Ptr (nd bL E ord.head?)) := by
    obtain ⟨nx, pv, lv, hN, hR, _⟩ := h
    rw [← hR.head]
    exact hN.c0 (x := none) trivial
  clear h
  go_enter Try.func56, Try.ntmps56
  go_wp2
  go_end0
  go_wp2_with fail
  refine hC.mono ?_
  rintro e w' ⟨rfl, hL, hF, hs⟩
  go_wp2
  go_ret
  exact ⟨rfl, hL, hF, hs⟩

set_option maxHeartbeats 800000 in
/-- '(*List).Len' -/
theorem Len_lst (h : Lst w bL E n V ord) : Calls Try.prog 69 #[Ptr bL] w fun e w' => e = .returned (.int .i64 ord.length) ∧ w' = w := by
  have h4 : w.cell? ⟨bL, 4, none⟩ = some (.int .i64 ord.length) := by
    obtain ⟨nx, pv, lv, hN, _⟩ := h
    exact hN.c4
  clear h
  go_enter Try.func69, Try.ntmps69
  go_wp2
  go_ret
  exact ⟨rfl, rfl⟩

/-- An element, or nil. -/
def elOr (E : Nat → Nat) : Option Nat → Value
  | none => .pointer none
  | some i => Ptr (E i)

set_option maxHeartbeats 800000 in
/-- '(*List).Front' -/
theorem Front_lst (h : Lst w bL E n V ord) : Calls Try.prog 57 #[Ptr bL] w fun e w' => e = .returned (elOr E ord.head?) ∧ w' = w := by
  have h4 : w.cell? ⟨bL, 4, none⟩ = some (.int .i64 ord.length) := by
    obtain ⟨nx, pv, lv, hN, _⟩ := h
    exact hN.c4
  have h0 : w.cell? ⟨bL, 0, none⟩ = some (Ptr (nd bL E ord.head?)) := by
    obtain ⟨nx, pv, lv, hN, hR, _⟩ := h
    rw [← hR.head]
    exact hN.c0 (x := none) trivial
  clear h
  cases ord with
  | nil =>
    go_enter Try.func57, Try.ntmps57
    go_wp2
    go_ret
    exact ⟨rfl, rfl⟩
  | cons i l =>
    have hb : (((i :: l).length : Int) == 0) = false := by simp; omega
    generalize hg : ((i :: l).length : Int) = m at *
    clear hg
    simp only [List.head?_cons, nd_some] at h0
    go_enter Try.func57, Try.ntmps57
    go_wp2
    go_ret
    exact ⟨rfl, rfl⟩

set_option maxHeartbeats 800000 in
/-- '(*Element).Next', of one that is in the list -/
theorem Next_lst {l1 l2 : List Nat} {i : Nat} (h : Lst w bL E n V (l1 ++ i :: l2)) : Calls Try.prog 59 #[Ptr (E i)] w fun e w' => e = .returned (elOr E l2.head?) ∧ w' = w := by
  obtain ⟨nx, pv, lv, hN, hR, hnd, hin, hout⟩ := h
  have hi : i < n := (hin i (by simp)).1
  have h0 := hN.c0 (x := some i) hi
  rw [hR.next, nd_some] at h0
  have h2 := hN.c2 (x := some i) hi
  rw [(hin i (by simp)).2, nd_some] at h2
  cases l2 with
  | nil =>
    have hcmp := neq_of w (equal37 w hN.root hN.root)
    simp only [decide_true] at hcmp
    simp only [List.head?_nil, nd_none] at h0
    clear hN hR hnd hin hout
    go_enter Try.func59, Try.ntmps59
    go_wp2
    go_ret
    exact ⟨rfl, rfl⟩
  | cons j l =>
    have hj : j < n := (hin j (by simp)).1
    have hcmp := neq_of w (equal37 w (hN.el j hj) hN.root)
    rw [decide_eq_false (hN.far hj)] at hcmp
    simp only [List.head?_cons, nd_some] at h0
    clear hN hR hnd hin hout
    go_enter Try.func59, Try.ntmps59
    go_wp2
    go_ret
    exact ⟨rfl, rfl⟩

set_option maxHeartbeats 800000 in
/-- 'list.New' -/
theorem New_lst (w : World) (E : Nat → Nat) (V : Option Nat → Value) (hV : V none = .nilIface) : Calls Try.prog 70 #[] w fun e w' => e = .returned (Ptr w.heap.size) ∧ Lst w' w.heap.size E 0 V [] ∧ Below w.heap.size w w' ∧ w.heap.size < w'.heap.size := by
  go_enter Try.func70, Try.ntmps70
  go_wp2
  go_ret
  refine ⟨rfl, ?_, (Below.refl _ _).alloc (Nat.le_refl _) _, by simp⟩
  refine ⟨fun _ => Ptr w.heap.size, fun _ => Ptr w.heap.size, fun _ => .pointer none, ⟨?_, fun i hi => by omega, fun i j hi => by omega⟩, ⟨rfl, rfl⟩, List.nodup_nil, by simp, by simp⟩
  rw [hV]
  exact heap_alloc_new _ _

/-- '(*List).move': to the end, one that is not there yet -/
theorem move_lst (h : Lst w bL E n V ord) (hn : n < 1000000) {i : Nat} (hi : i ∈ ord) (hlast : pvRoot w bL ≠ some (Ptr (E i))) :
    ∃ p, pvRoot w bL = some (Ptr (nd bL E p)) ∧ nd bL E p ≠ E i ∧ (∃ c t, w.heap[nd bL E p]? = some (.cells c t (0, 0))) ∧ Calls Try.prog 94 #[Ptr bL, Ptr (E i), Ptr (nd bL E p)] w fun e w' => e = .returned (.tuple #[]) ∧
      Lst w' bL E n V (ord.erase i ++ [i]) ∧ Fr (LB bL E n) w w' := by
  have hlen := h.len_le
  obtain ⟨nx, pv, lv, hN, hR, hnd, hin, hout⟩ := h
  have hpv : pvRoot w bL = some (pv none) := hN.c1 (x := none) trivial
  obtain ⟨a, q, ha, hq, hai, hqi, c1, c2, c3, c4⟩ := hR.remove hi hnd (by simp) (fun y _ => by simp)
  have hqn : q ≠ none := c4 (fun e => hlast (by rw [hpv, e]))
  have hlt : ∀ i ∈ ord, i < n := fun i hi => (hin i hi).1
  have hal : Live n a := live_of hlt ha
  have hql : Live n q := live_of hlt hq
  have hil : Live n (some i) := hlt i hi
  have hnde := hnd.erase i
  have hie : i ∉ ord.erase i := List.Nodup.not_mem_erase hnd
  obtain ⟨p, hp, hpi, d1, d2, d3⟩ := c3.push (i := i) hie hnde (by simp) (fun y _ => by simp)
  have hpl : Live n p := live_of (fun j hj => hlt j (List.mem_of_mem_erase hj)) hp
  rw [upd_other _ _ (Ne.symm hqn)] at d1
  -- the last is not the one ahead of i
  have hap : a ≠ p := by
    intro e
    subst e
    rw [upd_same] at d2
    have : nd bL E q = nd bL E none := by
      have := d2
      simp only [Value.pointer.injEq, Option.some.injEq, Addr.mk.injEq] at this
      exact this.1
    exact hqn (hN.nd_inj hql (y := none) trivial this)
  rw [upd_other _ _ (Ne.symm hap)] at d2
  refine ⟨p, by rw [hpv, d1], fun e => hpi (hN.nd_inj hpl hil e), ?_, ?_⟩
  · cases p with
    | none => exact ⟨_, _, hN.root⟩
    | some j => exact ⟨_, _, hN.el j hpl⟩
  have e0 := hN.c0 hil
  have e1 := hN.c1 hil
  have ep := hN.c0 hpl
  rw [c1] at e0
  rw [c2] at e1
  rw [d2] at ep
  have hcmp : (binOp .eql 37 (Ptr (E i)) (Ptr (nd bL E p))).run Try.prog w = .ok (.bool false) w := by
    have hne : E i ≠ nd bL E p := fun e => hpi (hN.nd_inj hpl hil e.symm)
    rw [← decide_eq_false hne]
    cases p with
    | none => exact eql_of w (equal37 w (hN.el i hil) hN.root)
    | some j => exact eql_of w (equal37 w (hN.el i hil) (hN.el j hpl))
  refine (move_cells bL (E i) (nd bL E a) (nd bL E q) (nd bL E p) _ _ _ w (fun e => hai (hN.nd_inj hal hil e)) (fun e => hqi (hN.nd_inj hql hil e)) (fun e => hN.far (hlt i hi) e.symm)
    (fun e => hpi (hN.nd_inj hpl hil e)) (fun e => hap (hN.nd_inj hal hpl e)) (fun e => hqn (hN.nd_inj hql (y := none) trivial e)) hcmp e0 e1 (hN.c0 hal) (hN.c1 hql) ep (hN.c1 (x := none) trivial)
    (hN.fz hil 0) (hN.fz hil 1) (hN.fz hpl 0) (hN.fz hal 0) (hN.fz hql 1) (hN.fz (x := none) trivial 1)).mono ?_
  rintro e w' ⟨rfl, hs⟩
  refine ⟨rfl, ?_, ?_⟩
  · have hN' := ((((((hN.setNext hal (Ptr (nd bL E q))).setPrev hql (Ptr (nd bL E a))).setPrev hil (Ptr (nd bL E p))).setNext hil (Ptr bL)).setNext hpl (Ptr (E i))).setPrev (x := none) trivial (Ptr (E i))).sim hs
    refine Lst.mk hN' ?_ d3 ?_ ?_ ?_
    · have h1 := List.length_erase_of_mem hi
      have h2 := List.length_pos_of_mem hi
      simp; omega
    · refine List.nodup_append.2 ⟨hnde, by simp, ?_⟩
      intro u hu v hv e
      have hv' : v = i := by simpa using hv
      subst hv'
      subst e
      exact hie hu
    · intro j hj
      have hj' : j ∈ ord := by
        rcases List.mem_append.1 hj with hj | hj
        · exact List.mem_of_mem_erase hj
        · have : j = i := by simpa using hj
          subst this; exact hi
      exact hin j hj'
    · intro j hj hj'
      refine hout j hj (fun hh => hj' ?_)
      by_cases e : j = i
      · simp [e]
      · exact List.mem_append.2 (Or.inl ((List.mem_erase_of_ne e).2 hh))
  · refine Fr.trans ?_ (Fr.of_sim hs _)
    exact ((((((Fr.refl _ w).set (Or.inl (LB.nd hal)) _).set (Or.inl (LB.nd hql)) _).set (Or.inl (LB.nd hil)) _).set (Or.inl (LB.nd hil)) _).set (Or.inl (LB.nd hpl)) _).set (Or.inl (Or.inl rfl)) _

/-- The last of a ring. -/
theorem Ring.last {nx pv : Option Nat → Value} : ∀ {l : List Nat} {x : Option Nat}, Ring bL E nx pv x l → l ≠ [] → pv none = Ptr (nd bL E l.getLast?)
  | [y], x, h, _ => h.2.2.2
  | y :: z :: l, x, h, _ => by
    have := Ring.last h.2.2 (by simp)
    rw [this]
    simp [List.getLast?_cons_cons]

theorem erase_last {l : List Nat} {i : Nat} (hd : l.Nodup) (h : l.getLast? = some i) : l.erase i ++ [i] = l := by
  obtain ⟨l', rfl⟩ : ∃ l', l = l' ++ [i] := by
    rcases List.eq_nil_or_concat l with rfl | ⟨l', b, rfl⟩
    · simp at h
    · have : b = i := by simpa using h
      subst this
      exact ⟨l', by simp⟩
  have hni : i ∉ l' := by
    have := List.nodup_append.1 hd
    intro hh
    exact this.2.2 i hh i (by simp) rfl
  rw [List.erase_append_right _ hni]
  simp

set_option maxHeartbeats 800000 in
/-- '(*List).MoveToBack' -/
theorem MoveToBack_lst (h : Lst w bL E n V ord) (hn : n < 1000000) {i : Nat} (hi : i ∈ ord) :
    Calls Try.prog 82 #[Ptr bL, Ptr (E i)] w fun e w' => e = .returned (.tuple #[]) ∧ Lst w' bL E n V (ord.erase i ++ [i]) ∧ Fr (LB bL E n) w w' := by
  have h' := h
  obtain ⟨nx, pv, lv, hN, hR, hnd, hin, hout⟩ := h
  have hlt : ∀ i ∈ ord, i < n := fun i hi => (hin i hi).1
  have hl : w.cell? ⟨E i, 2, none⟩ = some (Ptr bL) := by
    have := hN.c2 (x := some i) (hlt i hi)
    rw [(hin i hi).2] at this
    exact this
  have hc1 := neq_of w (equal89 w hN.root hN.root)
  simp only [decide_true] at hc1
  have hpv : w.cell? ⟨bL, 1, none⟩ = some (pv none) := hN.c1 (x := none) trivial
  have hne : ord ≠ [] := fun e => by subst e; simp at hi
  have hla := hR.last hne
  obtain ⟨j, hj⟩ : ∃ j, ord.getLast? = some j := by
    cases hg : ord.getLast? with
    | none => exact absurd (List.getLast?_eq_none_iff.1 hg) hne
    | some j => exact ⟨j, rfl⟩
  have hjo : j ∈ ord := List.mem_of_getLast? hj
  rw [hj, nd_some] at hla
  rw [hla] at hpv
  have hc2 := eql_of w (equal37 w (hN.el j (hlt j hjo)) (hN.el i (hlt i hi)))
  by_cases hji : j = i
  · subst hji
    simp only [decide_true] at hc2
    have hfin : Hid (ord.erase j ++ [j] = ord) := erase_last hnd hj
    clear hN hR hnd hin hout hlt hne hla hj
    go_enter Try.func82, Try.ntmps82
    go_wp2
    rw [hfin.out]
    exact bodyPost_ret (v := .tuple #[]) (results_none rfl _ _ _) rfl ⟨rfl, h', Fr.refl _ _⟩
  · have hE : E j ≠ E i := fun e => hji (hN.inj j i (hlt j hjo) (hlt i hi) e)
    rw [decide_eq_false hE] at hc2
    obtain ⟨p, m1, m2, m3, hC⟩ := move_lst h' hn hi (by unfold pvRoot; rw [hpv]; simp)
    unfold pvRoot at m1
    rw [hpv] at m1
    have hpe : nd bL E p = E j := by simpa using m1.symm
    rw [hpe] at hC
    clear hN hR hnd hin hout hlt hne hla hj m1 m2 m3 hpe h'
    go_enter Try.func82, Try.ntmps82
    go_wp2_with fail
    refine hC.mono ?_
    rintro e w' ⟨rfl, hL, hF⟩
    go_wp2
    go_end0
    exact ⟨rfl, hL, hF⟩
end
end Go.Proofs.Qxb6612554a
