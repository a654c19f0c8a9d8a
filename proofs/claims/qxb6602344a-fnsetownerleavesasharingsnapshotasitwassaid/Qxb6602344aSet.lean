import Derived.Test.Qxb6602344aGrants
namespace Go.Proofs.Qxb6602344a
open Go.ChangeShapes Go.WideShapes Go.ChangeAt Go.RowKit
open Classical
set_option linter.unusedVariables false
set_option linter.unusedSimpArgs false

theorem wpList_append_big {ops : Array Oper} {rest : List Oper} {o : Oper} {a : Act} {w : World} {Q : Exit → Act → World → Prop}
    (hgd : o.guard = none) (s x : Operand) (t : TypeId) (ho : o.op = .call { callee := .builtin .append, args := #[s, x], argTypes := #[t, t] })
    (base : Nat) (e : TypeId) (z : Value) (size bytes : Nat) (ht : Try.prog.underlying t = some (.slice e)) (hi : (Try.prog.info? e).map (fun i => (i.zero, i.size, i.bytes)) = some (some z, size, bytes)) (hzs : z.cells.size = size) (hsz : 0 < size) (hby : bytes ≤ 100)
    (v : Value) (n : Nat) (xs : List Value) (hs : a.eval s = v) (hown : w.ownsRow base e size v n xs)
    (ad : Addr) (news : List Value) (hx : a.eval x = .slice (some ad) 1 1) (hl : news.length = 1 * size) (hnews : ∀ j u, news[j]? = some u → w.cell? (ad.add j) = some u) (h1 : ∀ u ∈ news, u.oneCell' = true)
    (h63 : n ≤ 1000000000000) (hbase : base ≤ w.heap.size)
    (h : ∀ v' w', w'.ownsRow base e size v' (n + 1) (xs ++ news) → w.grownBy w' v.ownBlock → (v'.ownBlock = v.ownBlock ∨ v'.ownBlock = some w.heap.size) → wpList Try.prog ops Q rest (a.put o.dst v') w') :
    wpList Try.prog ops Q (o :: rest) a w := by
  obtain ⟨i0, hi, hz0, hz1, hz2⟩ := info_parts hi
  have hb : (n + 1) * bytes ≤ 1000000000001 * 100 := Nat.mul_le_mul (by omega) hby
  refine wpList_append_own_at w hgd s x t ho base e i0 z size bytes ht hi hz0 hz1 hz2 hzs hsz v n xs hs hown ad 1 1 news hx hl hnews h1 (by unfold maxLen; omega) (by omega) hbase (fun v' w' h2 h3 _ h5 => h v' w' h2 h3 h5)

theorem next_step {w : World} {r hm ck : Nat} {seen : Array Nat} {es : Array MapEntry} (hr : w.heap[r]? = some (.mapIter (some hm) ck seen ck)) (hb : w.heap[hm]? = some (.map es ck)) (hold : ∀ x ∈ es.toList, x.born < ck) (hnd : (es.toList.map (·.born)).Nodup) :
    ((leftOf es seen).size = 0 ∧ (Instr.next (.pointer (some ⟨r, 0, none⟩)) false 0).run Try.prog w = .ok (.tuple #[.bool false]) w) ∨
    ∃ e w', e ∈ es.toList ∧ (Instr.next (.pointer (some ⟨r, 0, none⟩)) false 0).run Try.prog w = .ok (.tuple #[.bool true, e.key, e.val]) w' ∧ w'.heap[r]? = some (.mapIter (some hm) ck (seen.push e.born) ck) ∧ (∀ b, b ≠ r → w'.heap[b]? = w.heap[b]?) ∧ w.grownBy w' (some r) ∧ w'.heap.size = w.heap.size ∧ (leftOf es (seen.push e.born)).size < (leftOf es seen).size ∧ (Instr.entry (.pointer (some ⟨r, 0, none⟩))).run Try.prog w' = .ok (.tuple #[e.key, e.val]) w' := by
  have hne : hm ≠ r := by rintro rfl; rw [hb] at hr; cases hr
  rcases run_next_at (P := Try.prog) w 0 r hm ck ck seen es ck hr hb hold (Nat.le_refl _) with ⟨h0, hrun⟩ | ⟨e, he, w1, hal, hrun⟩
  · exact Or.inl ⟨h0, hrun⟩
  · obtain ⟨hem, hes⟩ := mem_left he
    have hh : w1.heap = w.heap := by rcases hal with rfl | rfl <;> rfl
    have hlt : r < w1.heap.size := by rw [hh]; exact lt_of_heap hr
    have hset : ∀ o : Obj, (ChangeMaps.setBlock w1 r o).heap[r]? = some o := fun o => by simp [ChangeMaps.setBlock, hlt]
    have hfar : ∀ (o : Obj) b, b ≠ r → (ChangeMaps.setBlock w1 r o).heap[b]? = w.heap[b]? := fun o b hb => by
      simp only [ChangeMaps.setBlock]
      rw [Array.getElem?_setIfInBounds, if_neg (fun e => hb e.symm), hh]
    have hsz : ∀ o : Obj, (ChangeMaps.setBlock w1 r o).heap.size = w.heap.size := fun o => by simp [ChangeMaps.setBlock, hh]
    refine Or.inr ⟨e, _, hem, hrun, hset _, hfar _, ?_, hsz _, left_shrinks es seen e he, run_entry_at _ r hm ck seen es ck e (hset _) (by rw [hfar _ _ hne]; exact hb) hem hnd⟩
    rcases hal with rfl | rfl <;> exact ⟨rfl, rfl, rfl, by rw [hsz]; exact Nat.le_refl _, fun b _ hbn => hfar _ b (fun e => hbn (by rw [e]))⟩

theorem len_sub : ∀ {a b : List ByteArray}, a.Nodup → (∀ x ∈ a, x ∈ b) → a.length ≤ b.length
  | [], _, _, _ => Nat.zero_le _
  | x :: a, b, hn, hs => by
    obtain ⟨h1, h2⟩ := List.nodup_cons.1 hn
    obtain ⟨l, r, rfl⟩ := List.append_of_mem (hs x (by simp))
    have := len_sub (a := a) (b := l ++ r) h2 (fun y hy => by
      have hy' := hs y (by simp [hy])
      have hne : y ≠ x := fun e => h1 (by rw [← e]; exact hy)
      simp only [List.mem_append, List.mem_cons] at hy' ⊢
      rcases hy' with h | h | h
      · exact Or.inl h
      · exact absurd h hne
      · exact Or.inr h)
    simp at this ⊢
    omega

/-- While the owner is set: the loop over the old map, the new map. -/
structure SO (w wr : World) (q hm ck : Nat) (seen : Array Nat) (c : Nat) : Prop where
  it : wr.heap[q + 1]? = some (.mapIter (some hm) ck seen ck)
  bel : Below q w wr
  gm : ∃ keys2 G2 vs2, GM wr q q 57 3 keys2 G2 vs2 ∧ ∀ k, (G2 k).length ≤ 3 * c
def mIter (w : World) (r : Nat) (es : Array MapEntry) : Nat := match w.heap[r]? with
  | some (.mapIter _ _ seen _) => (leftOf es seen).size
  | _ => 0
theorem SO.measure {w wr : World} {q hm ck : Nat} {seen : Array Nat} {c : Nat} (h : SO w wr q hm ck seen c) (es : Array MapEntry) : mIter wr (q + 1) es = (leftOf es seen).size := by
  unfold mIter
  rw [h.it]
/-- The new map and the walk over the old one stand in a world whose blocks stand. -/
theorem SO.kept {w wr w' : World} {q hm ck : Nat} {seen : Array Nat} {c : Nat} (h : SO w wr q hm ck seen c) (hb : ∀ b, b < wr.heap.size → w'.heap[b]? = wr.heap[b]?) (hbel : Below q w w') : SO w w' q hm ck seen c := by
  obtain ⟨k2, G2, v2, h1, h2⟩ := h.gm
  exact ⟨by rw [hb _ (lt_of_heap h.it)]; exact h.it, hbel, ⟨k2, G2, v2, h1.kept (fun b hlt _ => hb b hlt), h2⟩⟩
theorem SO.mono {w wr : World} {q hm ck : Nat} {seen : Array Nat} {c c' : Nat} (h : SO w wr q hm ck seen c) (hc : c ≤ c') : SO w wr q hm ck seen c' := by
  obtain ⟨k2, G2, v2, h1, h2⟩ := h.gm
  exact ⟨h.it, h.bel, ⟨k2, G2, v2, h1, fun k => by have := h2 k; omega⟩⟩
theorem SO.next {w wr w2 : World} {q hm ck : Nat} {seen seen' : Array Nat} {c : Nat} (h : SO w wr q hm ck seen c) (hit : w2.heap[q + 1]? = some (.mapIter (some hm) ck seen' ck)) (hfar : ∀ b, b ≠ q + 1 → w2.heap[b]? = wr.heap[b]?) (hgr : wr.grownBy w2 (some (q + 1))) (hq : q ≤ wr.heap.size) : SO w w2 q hm ck seen' c := by
  obtain ⟨k2, G2, v2, h1, h2⟩ := h.gm
  refine ⟨hit, h.bel.grown hgr hq (fun k hk => by cases hk; omega), ⟨k2, G2, v2, h1.kept (fun b hlt hc => hfar b ?_), h2⟩⟩
  rintro rfl
  rcases hc with hc | ⟨cur, hc⟩
  · omega
  · rw [h.it] at hc; cases hc
/-- held[k] = append(held[k], r) -/
theorem SO.append {w W : World} {q hm ck : Nat} {seen : Array Nat} {c : Nat} (h : SO w W q hm ck seen c) (hc : c ≤ 100000000000) (hq : q = w.heap.size) {k : ByteArray} (hk : k.size ≤ maxLen) (new : List Value) (hn3 : new.length = 3) :
    ∃ n v xs, n ≤ 1000000000000 ∧ (∃ a c, v = .slice a n c) ∧ (Instr.lookup 54 (.map (some q)) (.string k) false).run Try.prog W = .ok v W ∧ (W.alloc (.cells new.toArray 57)).ownsRow q 57 3 v n xs ∧ q ≤ (W.alloc (.cells new.toArray 57)).heap.size ∧
      ∀ (v2 : Value) (w2 : World), w2.ownsRow q 57 3 v2 (n + 1) (xs ++ new) → (W.alloc (.cells new.toArray 57)).grownBy w2 v.ownBlock → (v2.ownBlock = v.ownBlock ∨ v2.ownBlock = some (W.alloc (.cells new.toArray 57)).heap.size) →
        ∃ w3, (Instr.mapUpdate 54 (.map (some q)) (.string k) v2).run Try.prog w2 = .ok () w3 ∧ SO w w3 q hm ck seen (c + 1) := by
  obtain ⟨k2, G2, v2, h1, h2⟩ := h.gm
  have hqW : q ≤ W.heap.size := by rw [hq]; exact h.bel.size
  obtain ⟨n, hl, hf, hlk, hown, hbs, hst⟩ := h1.append1 hqW (T := 54) (E := 55) Try.underlying54 (zero55 _) hk new
  refine ⟨n, _, _, by have := h2 k; omega, hf, hlk, hown, hbs, fun u w2 a1 a2 a3 => ?_⟩
  obtain ⟨w3, b1, b2, b3, b4, b5⟩ := hst u w2 a1 a2 a3
  refine ⟨w3, b1, b4 _ _ h.it (by omega) (fun cur e => by cases e), b3 q w h.bel hqW (Nat.le_refl _) (Nat.le_refl _), ⟨_, _, _, b2, fun x => ?_⟩⟩
  unfold updV
  split
  · rw [List.length_append, hn3]; have := h2 k; omega
  · have := h2 x; omega

set_option maxRecDepth 20000 in
set_option maxHeartbeats 8000000 in
theorem setOwner_any {w : World} {sb so cap : Nat} {O : Nat → Nat} {hm base : Nat} {db nm ow nw : ByteArray} {N : Nat} {S : Nat → ByteArray} {keys : List ByteArray} {vs : ByteArray → Value} {R : Nat → Gr} {n : Nat} (h : Snap w sb so cap O hm base db nm ow N S keys (rightsOf R n) vs) (hN : N ≤ 65536) (hn : n ≤ 65536) (hkl : keys.length ≤ 200000) (znw : nw.size ≤ maxLen) :
    Calls Try.prog 28 #[Ptr sb, .string nw] w fun e w' => e = .returned (.tuple #[]) ∧ Fr (fun b => b = so) w w' ∧ ∀ i, 1 ≤ i → i ≤ N → w'.cell? ⟨so, i, none⟩ = some (Ptr (O i)) := by
  have c1 := h.c1
  have c2 := h.obj (Nat.zero_le N)
  have hI : (0 : Int) < (N : Int) + 1 := by omega
  have hmm := @run_makeMap Try.prog
  obtain ⟨es, ck, hes, hpairs, hnd, hold⟩ := h.gm.map.ex
  have hesz : es.size = keys.length := by
    have := congrArg List.length hpairs
    simpa using this
  have HS : Hid (Snap w sb so cap O hm base db nm ow N S keys (rightsOf R n) vs) := h
  have HE : Hid (∀ e ∈ es.toList, ∃ k m a c, e.key = .string k ∧ k.size ≤ maxLen ∧ e.val = .slice a m c ∧ m ≤ 65536 ∧ ∀ j, j < m → ∃ g0 p o t, a = some ⟨g0, 0, none⟩ ∧ w.cell? ⟨g0, j * 3, none⟩ = some (.string p) ∧ w.cell? ⟨g0, j * 3 + 1, none⟩ = some (.string o) ∧ w.cell? ⟨g0, j * 3 + 2, none⟩ = some (.bool t)) := by
    intro e he
    obtain ⟨j0, hj0⟩ := List.mem_iff_getElem?.1 he
    obtain ⟨k, hk, e1, e2⟩ := entry_of hpairs hj0
    have hkm := List.mem_of_getElem? hk
    obtain ⟨m, hm0⟩ := h.gm.row k hkm
    obtain ⟨a, c, hv⟩ := own_form hm0
    refine ⟨k, m, a, c, e1, h.gm.map.sz k hkm, by rw [e2, hv], ?_, fun j hj => ?_⟩
    · have := hm0.1
      have := rightsOf_le R n k
      omega
    · rw [hv] at hm0
      rcases hm0.2 with ⟨_, h0⟩ | ⟨g0, cap0, cur, hs, _, _⟩
      · omega
      have hlen : (idxL R n k).length = m := by
        have := hm0.1
        rw [rightsOf_idx] at this
        have hf : ∀ I : List Nat, (I.flatMap fun i => rightCells (R i)).length = I.length * 3 := fun I => by
          induction I with
          | nil => rfl
          | cons x I ih => rw [List.flatMap_cons, List.length_append, ih]; simp [rightCells]; omega
        rw [hf] at this
        omega
      have e := List.getElem?_eq_getElem (show j < (idxL R n k).length by omega)
      generalize (idxL R n k)[j] = i at e
      have hc := hm0.cells (g := g0) (by cases hs; rfl)
      cases hs
      refine ⟨g0, (R i).p, (R i).o, (R i).t, rfl, ?_, ?_, ?_⟩
      · have := hc (j * 3 + 0) (.string (R i).p) (by rw [rightsOf_idx, flat_get R _ j i 0 e (by omega)]; rfl)
        rwa [Addr.add_mid, Nat.zero_add] at this
      · have := hc (j * 3 + 1) (.string (R i).o) (by rw [rightsOf_idx, flat_get R _ j i 1 e (by omega)]; rfl)
        rwa [Addr.add_mid, Nat.zero_add] at this
      · have := hc (j * 3 + 2) (.bool (R i).t) (by rw [rightsOf_idx, flat_get R _ j i 2 e (by omega)]; rfl)
        rwa [Addr.add_mid, Nat.zero_add] at this
  have c3 : (w.alloc (.map #[] 0)).cell? ⟨O 0, 3, none⟩ = some (.map (some hm)) := cell_later ((Below.refl _ _).alloc (Nat.le_refl _) _) (cell_of_block h.o0 3)
  have hrg : (Instr.range 54 (.map (some hm))).run Try.prog (w.alloc (.map #[] 0)) = .ok (.pointer (some ⟨w.heap.size + 1, 0, none⟩)) ((w.alloc (.map #[] 0)).alloc (.mapIter (some hm) ck #[] ck)) := by
    have := run_range_map (P := Try.prog) (w.alloc (.map #[] 0)) 54 9 55 hm es ck Try.underlying54 (by rw [Below.heap_alloc _ _ _ (lt_of_heap hes)]; exact hes)
    rw [World.size_alloc] at this
    exact this
  have HSO : Hid (SO w ((w.alloc (.map #[] 0)).alloc (.mapIter (some hm) ck #[] ck)) w.heap.size hm ck #[] 0) := by
    refine ⟨?_, ((Below.refl _ _).alloc (Nat.le_refl _) _).alloc (by simp) _, ⟨[], fun _ => [], fun _ => .slice none 0 0, (GM.made w w.heap.size 57 3).kept (fun b hb _ => Below.heap_alloc _ _ _ hb), by simp⟩⟩
    have := heap_alloc_new (w.alloc (.map #[] 0)) (.mapIter (some hm) ck #[] ck)
    rw [World.size_alloc] at this
    exact this
  have HES : Hid (w.heap[hm]? = some (.map es ck)) := hes
  have HOLD : Hid (∀ x ∈ es.toList, x.born < ck) := hold
  have HND : Hid (es.toList.map (·.born)).Nodup := hnd
  have HO2 : Hid (w.cell? ⟨O 0, 2, none⟩ = some (.string ow)) := cell_of_block h.o0 2
  clear h hes hpairs hnd hold
  go_enter Try.func28, Try.ntmps28
  go_wp2
  clear hmm hrg c1 c2 c3
  generalize hq : w.heap.size = q at *
  go_loopw [] (fun wr => ∃ (seen : Array Nat) (s : Nat), (leftOf es seen).size + s ≤ es.size ∧ SO w wr q hm ck seen (s * 65536)) (fun wr => mIter wr (q + 1) es)
  case atStart =>
    refine ⟨#[], 0, ?_, by simpa using HSO.out⟩
    have := @Array.size_filter_le _ (fun e : MapEntry => !(#[] : Array Nat).contains e.born) es
    unfold leftOf
    omega
  case round =>
    obtain ⟨wo, hwo⟩ : ∃ wo, wo = wr := ⟨wr, rfl⟩
    subst hwo
    obtain ⟨seen, s, hleft, hso⟩ := hrel
    have HSo : Hid (SO w wo q hm ck seen (s * 65536)) := hso
    clear HSO
    have hqw : q ≤ wo.heap.size := by rw [← hq]; exact hso.bel.size
    have hhm : wo.heap[hm]? = some (.map es ck) := by rw [hso.bel.block _ (by rw [← hq]; exact lt_of_heap HES.out)]; exact HES.out
    rcases next_step hso.it hhm HOLD.out HND.out with ⟨h0, hrun⟩ | ⟨e, w2, hem, hrun, hit2, hfar2, hgr2, hsz2, hlt2, hen⟩
    · obtain ⟨oc, hoc, hog⟩ := HS.out.objs
      have hsoq : so < q := by rw [← hq]; exact lt_of_heap hoc
      have hoc' : wo.heap[so]? = some (.cells oc 59 (0, 0)) := by rw [hso.bel.block _ hsoq]; exact hoc
      have hocA : ∀ o : Obj, (wo.alloc o).drew.heap[so]? = some (.cells oc 59 (0, 0)) := fun o => by
        have : (wo.alloc o).drew.heap[so]? = wo.heap[so]? := Below.heap_alloc wo o so (lt_of_heap hoc')
        rw [this]; exact hoc'
      have hso1 : ∀ o : Obj, (wo.alloc o).drew.cell? ⟨so, 0, none⟩ = some (Ptr (O 0)) := fun o => by rw [cell_of_block (hocA o)]; exact hog 0 (Nat.zero_le _)
      have hso2 : ∀ o : Obj, (wo.alloc o).drew.frozen? ⟨so, 0, none⟩ = false := fun o => frozen_of_block (hocA o) 0
      have n1 : sb ≠ so := fun e => by have h1 := HS.out.top; rw [e, hoc] at h1; cases h1
      have n2 : O 0 ≠ so := fun e => by have h1 := HS.out.o0; rw [e, hoc] at h1; cases h1
      have HC : Hid (∀ W, Below q w W → W.cell? ⟨sb, 1, none⟩ = some (.slice (some ⟨so, 0, none⟩) (N + 1) cap) ∧ W.cell? ⟨O 0, 1, none⟩ = some (.string nm)) := fun W hW => ⟨cell_later (by rw [hq]; exact hW) HS.out.c1, cell_later (by rw [hq]; exact hW) (cell_of_block HS.out.o0 1)⟩
      have H0 : Hid _ := HC.out wo.drew hso.bel.drew
      have H1 : Hid (∀ o : Obj, _) := fun o => HC.out (wo.alloc o).drew (hso.bel.alloc hqw o).drew
      have H2 : Hid (∀ (o : Obj) (v : Value), ((wo.alloc o).drew.setCell ⟨so, 0, none⟩ v).cell? ⟨sb, 1, none⟩ = some (.slice (some ⟨so, 0, none⟩) (N + 1) cap) ∧ ((wo.alloc o).drew.setCell ⟨so, 0, none⟩ v).cell? ⟨O 0, 1, none⟩ = some (.string nm)) := fun o v => by
        have := HC.out (wo.alloc o).drew (hso.bel.alloc hqw o).drew
        rw [cell_set_far _ _ n1, cell_set_far _ _ n2]
        exact this
      have HF : Hid (∀ (o : Obj) (v : Value), Fr (fun b => b = so) w ((wo.alloc o).drew.setCell ⟨so, 0, none⟩ v) ∧ ∀ i, 1 ≤ i → i ≤ N → ((wo.alloc o).drew.setCell ⟨so, 0, none⟩ v).cell? ⟨so, i, none⟩ = some (Ptr (O i))) := fun o v => by
        have hb := (hso.bel.alloc hqw o).drew
        refine ⟨⟨hb.os, hb.tape, hb.output, by have := hb.size; simpa [World.setCell] using this, fun b hb1 hb2 => ?_⟩, fun i h1 h2 => ?_⟩
        · rw [Below.heap_setCell _ _ _ _ hb2, hb.block b (by rw [← hq]; exact hb1)]
        · rw [cell_set_ne _ _ (by omega), cell_of_block (hocA o)]
          exact hog i h2
      clear hso hhm hoc hoc' hog hocA HC
      go_wp2
      go_region_held3 (fun w' => w'.cell? ⟨sb, 1, none⟩ = some (.slice (some ⟨so, 0, none⟩) (N + 1) cap) ∧ w'.cell? ⟨O 0, 1, none⟩ = some (.string nm)) (first | exact H0.out | exact H1.out _ | exact H2.out _ _ | assumption) (fail)
      go_wp2
      go_end0
      exact ⟨rfl, HF.out _ _⟩
    · obtain ⟨k, m, a, c, hke, hkz, hve, hm6, hrow⟩ := HE.out e hem
      rw [hke, hve] at hrun hen
      have HSo2 : Hid (SO w w2 q hm ck (seen.push e.born) (s * 65536)) := hso.next hit2 hfar2 hgr2 hqw
      have HRow : Hid _ := hrow
      have co : w2.cell? ⟨O 0, 2, none⟩ = some (.string ow) := cell_later (by rw [hq]; exact HSo2.out.bel) HO2.out
      have hsb : s ≤ 200000 := by omega
      clear hso hhm hit2 hfar2 hgr2 hrow hke hve
      by_cases hko : (k.toList == ow.toList) = true
      · skip
        go_wp2
        go_loopw [36] (fun t wr => ∃ j : Nat, j ≤ m ∧ t = .int .i64 j ∧ SO w wr q hm ck (seen.push e.born) (s * 65536 + j)) (fun t _ => m - (intOf t).toNat)
        case atStart => exact ⟨0, Nat.zero_le _, rfl, SO.mono HSo2.out (by omega)⟩
        case round =>
          obtain ⟨j, hj, rfl, hso3⟩ := hrel
          have HSo3 : Hid (SO w wr q hm ck (seen.push e.born) (s * 65536 + j)) := hso3
          clear HSo2
          by_cases hltj : j < m
          · obtain ⟨g0, p, o, t, rfl, d0, d1, d2⟩ := HRow.out j hltj
            have d0' := cell_later (by rw [hq]; exact hso3.bel) d0
            have d1' := cell_later (by rw [hq]; exact hso3.bel) d1
            have d2' := cell_later (by rw [hq]; exact hso3.bel) d2
            have co2 : wr.cell? ⟨O 0, 2, none⟩ = some (.string ow) := cell_later (by rw [hq]; exact hso3.bel) HO2.out
            have hjI : (j : Int) < m := by omega
            have hqr : q ≤ wr.heap.size := by rw [← hq]; exact hso3.bel.size
            have hW0 : (wr.alloc (.cells #[.string p, .string o, .bool t] 57)).drew.heap[wr.heap.size]? = some (.cells #[.string p, .string o, .bool t] 57 (0, 0)) := heap_alloc_new wr _
            have H0 : Hid ((wr.alloc (.cells #[.string p, .string o, .bool t] 57)).drew.cell? ⟨wr.heap.size, 1, none⟩ = some (.string o) ∧ (wr.alloc (.cells #[.string p, .string o, .bool t] 57)).drew.cell? ⟨O 0, 2, none⟩ = some (.string ow)) := ⟨cell_of_block hW0 1, cell_later ((Below.refl _ _).alloc (Nat.le_refl _) _).drew co2⟩
            have HSo4 : Hid (SO w (wr.alloc (.cells #[.string p, .string o, .bool t] 57)).drew q hm ck (seen.push e.born) (s * 65536 + j)) := hso3.kept (fun b hb => Below.heap_alloc wr _ _ hb) (hso3.bel.alloc hqr _).drew
            have HW0 : Hid _ := hW0
            have HsW : Hid ((wr.alloc (.cells #[.string p, .string o, .bool t] 57)).drew.heap.size = wr.heap.size + 1) := World.size_alloc _ _
            clear d0 d1 d2 hW0 hso3 co2
            go_wp2
            clear d0' d1' d2'
            by_cases hoo : (o.toList == ow.toList) = true
            · go_region_held3 (fun w' => w'.cell? ⟨wr.heap.size, 1, none⟩ = some (.string o) ∧ w'.cell? ⟨O 0, 2, none⟩ = some (.string ow)) (first | exact H0.out | assumption) (fail)
              clear H0
              rename_i hHeld
              clear hHeld
              generalize hWd : (wr.alloc (Obj.cells #[Value.string p, Value.string o, Value.bool t] 57)).drew = Wd at *
              have hBk : Blk Wd wr.heap.size 57 3 := ⟨_, HW0.out, rfl⟩
              have e1 := cell_of_block HW0.out 1
              have f1 := frozen_of_block HW0.out 1
              have k0 : (Wd.setCell ⟨wr.heap.size, 1, none⟩ (.string nw)).cell? ⟨wr.heap.size, 0, none⟩ = some (.string p) := by rw [cell_set_ne _ _ (by omega)]; exact cell_of_block HW0.out 0
              have k1 : (Wd.setCell ⟨wr.heap.size, 1, none⟩ (.string nw)).cell? ⟨wr.heap.size, 1, none⟩ = some (.string nw) := hBk.cell_set _ (by omega)
              have k2 : (Wd.setCell ⟨wr.heap.size, 1, none⟩ (.string nw)).cell? ⟨wr.heap.size, 2, none⟩ = some (.bool t) := by rw [cell_set_ne _ _ (by omega)]; exact cell_of_block HW0.out 2
              have HSoW : Hid (SO w (Wd.setCell ⟨wr.heap.size, 1, none⟩ (.string nw)) q hm ck (seen.push e.born) (s * 65536 + j)) := HSo3.out.kept (fun b hb => by
                rw [Below.heap_setCell _ _ _ _ (by show b ≠ wr.heap.size; omega), ← hWd]
                exact Below.heap_alloc wr _ _ hb) (HSo4.out.bel.setCell hqr _)
              clear hWd hBk HW0
              obtain ⟨nn, v, xs, hnn, ⟨va, vc, hvf⟩, hlk, hown, hbs, hst⟩ := HSoW.out.append (by omega) hq.symm znw [.string p, .string nw, .bool t] rfl
              subst hvf
              have HOwn : Hid _ := hown
              have HBs : Hid _ := hbs
              have HSt : Hid _ := hst
              have HNw : Hid (∀ (j : Nat) (u : Value), [Value.string p, Value.string nw, Value.bool t][j]? = some u → ((Wd.setCell ⟨wr.heap.size, 1, none⟩ (.string nw)).alloc (.cells #[.string p, .string nw, .bool t] 57)).cell? ((⟨Wd.heap.size, 0, none⟩ : Addr).add j) = some u) := by
                intro j u hj
                have := oneCell_new (w := (Wd.setCell ⟨wr.heap.size, 1, none⟩ (.string nw))) (cs := [.string p, .string nw, .bool t]) (t := 57) j u hj
                simpa only [World.size_setCell] using this
              clear hown hbs hst
              go_wp2_with (first | (at_builtin; refine wpList_append_big (by rfl) (.tmp 53) (.tmp 55) 55 (by rfl) q 57 _ 3 40 Try.underlying55 info57 (by rfl) (by decide) (by decide) (.slice va nn vc) nn xs (by rfl) HOwn.out ⟨Wd.heap.size, 0, none⟩ [.string p, .string nw, .bool t] (by rfl) (by rfl) HNw.out (fun u hu => by simp at hu; rcases hu with rfl | rfl | rfl <;> rfl) hnn HBs.out ?_; intro u2 w5 ho hg hl; obtain ⟨w6, hu6, hso6⟩ := HSt.out u2 w5 ho hg hl; have HSo6 : Hid (SO w w6 q hm ck (seen.push e.born) (s * 65536 + j + 1)) := hso6; clear ho hg hl hso6) | go_in)
              go_roundw
              case rel => exact ⟨j + 1, by omega, by go_num, SO.mono HSo6.out (by omega)⟩
              case measure => simp [intOf]; omega
            · have hoo' : (o.toList == ow.toList) = false := by simpa using hoo
              go_region_held3 (fun w' => w'.cell? ⟨wr.heap.size, 1, none⟩ = some (.string o) ∧ w'.cell? ⟨O 0, 2, none⟩ = some (.string ow)) (first | exact H0.out | assumption) (fail)
              clear H0
              rename_i hHeld
              clear hHeld
              generalize hWd : (wr.alloc (Obj.cells #[Value.string p, Value.string o, Value.bool t] 57)).drew = Wd at *
              have k0 := cell_of_block HW0.out 0
              have k1 := cell_of_block HW0.out 1
              have k2 := cell_of_block HW0.out 2
              have HSoW : Hid (SO w Wd q hm ck (seen.push e.born) (s * 65536 + j)) := HSo4.out
              clear hWd HW0
              obtain ⟨nn, v, xs, hnn, ⟨va, vc, hvf⟩, hlk, hown, hbs, hst⟩ := HSoW.out.append (by omega) hq.symm znw [.string p, .string o, .bool t] rfl
              subst hvf
              have HOwn : Hid _ := hown
              have HBs : Hid _ := hbs
              have HSt : Hid _ := hst
              have HNw : Hid (∀ (j : Nat) (u : Value), [Value.string p, Value.string o, Value.bool t][j]? = some u → (Wd.alloc (.cells #[.string p, .string o, .bool t] 57)).cell? ((⟨Wd.heap.size, 0, none⟩ : Addr).add j) = some u) := by
                intro j u hj
                have := oneCell_new (w := Wd) (cs := [.string p, .string o, .bool t]) (t := 57) j u hj
                simpa only [World.size_setCell] using this
              clear hown hbs hst
              go_wp2_with (first | (at_builtin; refine wpList_append_big (by rfl) (.tmp 53) (.tmp 55) 55 (by rfl) q 57 _ 3 40 Try.underlying55 info57 (by rfl) (by decide) (by decide) (.slice va nn vc) nn xs (by rfl) HOwn.out ⟨Wd.heap.size, 0, none⟩ [.string p, .string o, .bool t] (by rfl) (by rfl) HNw.out (fun u hu => by simp at hu; rcases hu with rfl | rfl | rfl <;> rfl) hnn HBs.out ?_; intro u2 w5 ho hg hl; obtain ⟨w6, hu6, hso6⟩ := HSt.out u2 w5 ho hg hl; have HSo6 : Hid (SO w w6 q hm ck (seen.push e.born) (s * 65536 + j + 1)) := hso6; clear ho hg hl hso6) | go_in)
              go_roundw
              case rel => exact ⟨j + 1, by omega, by go_num, SO.mono HSo6.out (by omega)⟩
              case measure => simp [intOf]; omega
          · obtain rfl : j = m := by omega
            have hltx := hso3.measure es
            clear hso3
            go_wp2
            go_roundw
            case rel => exact ⟨seen.push e.born, s + 1, by omega, SO.mono HSo3.out (by omega)⟩
            case measure => rw [hltx, HSo.out.measure es]; exact hlt2
      · have hko' : (k.toList == ow.toList) = false := by simpa using hko
        go_wp2
        go_loopw [36] (fun t wr => ∃ j : Nat, j ≤ m ∧ t = .int .i64 j ∧ SO w wr q hm ck (seen.push e.born) (s * 65536 + j)) (fun t _ => m - (intOf t).toNat)
        case atStart => exact ⟨0, Nat.zero_le _, rfl, SO.mono HSo2.out (by omega)⟩
        case round =>
          obtain ⟨j, hj, rfl, hso3⟩ := hrel
          have HSo3 : Hid (SO w wr q hm ck (seen.push e.born) (s * 65536 + j)) := hso3
          clear HSo2
          by_cases hltj : j < m
          · obtain ⟨g0, p, o, t, rfl, d0, d1, d2⟩ := HRow.out j hltj
            have d0' := cell_later (by rw [hq]; exact hso3.bel) d0
            have d1' := cell_later (by rw [hq]; exact hso3.bel) d1
            have d2' := cell_later (by rw [hq]; exact hso3.bel) d2
            have co2 : wr.cell? ⟨O 0, 2, none⟩ = some (.string ow) := cell_later (by rw [hq]; exact hso3.bel) HO2.out
            have hjI : (j : Int) < m := by omega
            have hqr : q ≤ wr.heap.size := by rw [← hq]; exact hso3.bel.size
            have hW0 : (wr.alloc (.cells #[.string p, .string o, .bool t] 57)).drew.heap[wr.heap.size]? = some (.cells #[.string p, .string o, .bool t] 57 (0, 0)) := heap_alloc_new wr _
            have H0 : Hid ((wr.alloc (.cells #[.string p, .string o, .bool t] 57)).drew.cell? ⟨wr.heap.size, 1, none⟩ = some (.string o) ∧ (wr.alloc (.cells #[.string p, .string o, .bool t] 57)).drew.cell? ⟨O 0, 2, none⟩ = some (.string ow)) := ⟨cell_of_block hW0 1, cell_later ((Below.refl _ _).alloc (Nat.le_refl _) _).drew co2⟩
            have HSo4 : Hid (SO w (wr.alloc (.cells #[.string p, .string o, .bool t] 57)).drew q hm ck (seen.push e.born) (s * 65536 + j)) := hso3.kept (fun b hb => Below.heap_alloc wr _ _ hb) (hso3.bel.alloc hqr _).drew
            have HW0 : Hid _ := hW0
            have HsW : Hid ((wr.alloc (.cells #[.string p, .string o, .bool t] 57)).drew.heap.size = wr.heap.size + 1) := World.size_alloc _ _
            clear d0 d1 d2 hW0 hso3 co2
            go_wp2
            clear d0' d1' d2'
            by_cases hoo : (o.toList == ow.toList) = true
            · go_region_held3 (fun w' => w'.cell? ⟨wr.heap.size, 1, none⟩ = some (.string o) ∧ w'.cell? ⟨O 0, 2, none⟩ = some (.string ow)) (first | exact H0.out | assumption) (fail)
              clear H0
              rename_i hHeld
              clear hHeld
              generalize hWd : (wr.alloc (Obj.cells #[Value.string p, Value.string o, Value.bool t] 57)).drew = Wd at *
              have hBk : Blk Wd wr.heap.size 57 3 := ⟨_, HW0.out, rfl⟩
              have e1 := cell_of_block HW0.out 1
              have f1 := frozen_of_block HW0.out 1
              have k0 : (Wd.setCell ⟨wr.heap.size, 1, none⟩ (.string nw)).cell? ⟨wr.heap.size, 0, none⟩ = some (.string p) := by rw [cell_set_ne _ _ (by omega)]; exact cell_of_block HW0.out 0
              have k1 : (Wd.setCell ⟨wr.heap.size, 1, none⟩ (.string nw)).cell? ⟨wr.heap.size, 1, none⟩ = some (.string nw) := hBk.cell_set _ (by omega)
              have k2 : (Wd.setCell ⟨wr.heap.size, 1, none⟩ (.string nw)).cell? ⟨wr.heap.size, 2, none⟩ = some (.bool t) := by rw [cell_set_ne _ _ (by omega)]; exact cell_of_block HW0.out 2
              have HSoW : Hid (SO w (Wd.setCell ⟨wr.heap.size, 1, none⟩ (.string nw)) q hm ck (seen.push e.born) (s * 65536 + j)) := HSo3.out.kept (fun b hb => by
                rw [Below.heap_setCell _ _ _ _ (by show b ≠ wr.heap.size; omega), ← hWd]
                exact Below.heap_alloc wr _ _ hb) (HSo4.out.bel.setCell hqr _)
              clear hWd hBk HW0
              obtain ⟨nn, v, xs, hnn, ⟨va, vc, hvf⟩, hlk, hown, hbs, hst⟩ := HSoW.out.append (by omega) hq.symm hkz [.string p, .string nw, .bool t] rfl
              subst hvf
              have HOwn : Hid _ := hown
              have HBs : Hid _ := hbs
              have HSt : Hid _ := hst
              have HNw : Hid (∀ (j : Nat) (u : Value), [Value.string p, Value.string nw, Value.bool t][j]? = some u → ((Wd.setCell ⟨wr.heap.size, 1, none⟩ (.string nw)).alloc (.cells #[.string p, .string nw, .bool t] 57)).cell? ((⟨Wd.heap.size, 0, none⟩ : Addr).add j) = some u) := by
                intro j u hj
                have := oneCell_new (w := (Wd.setCell ⟨wr.heap.size, 1, none⟩ (.string nw))) (cs := [.string p, .string nw, .bool t]) (t := 57) j u hj
                simpa only [World.size_setCell] using this
              clear hown hbs hst
              go_wp2_with (first | (at_builtin; refine wpList_append_big (by rfl) (.tmp 53) (.tmp 55) 55 (by rfl) q 57 _ 3 40 Try.underlying55 info57 (by rfl) (by decide) (by decide) (.slice va nn vc) nn xs (by rfl) HOwn.out ⟨Wd.heap.size, 0, none⟩ [.string p, .string nw, .bool t] (by rfl) (by rfl) HNw.out (fun u hu => by simp at hu; rcases hu with rfl | rfl | rfl <;> rfl) hnn HBs.out ?_; intro u2 w5 ho hg hl; obtain ⟨w6, hu6, hso6⟩ := HSt.out u2 w5 ho hg hl; have HSo6 : Hid (SO w w6 q hm ck (seen.push e.born) (s * 65536 + j + 1)) := hso6; clear ho hg hl hso6) | go_in)
              go_roundw
              case rel => exact ⟨j + 1, by omega, by go_num, SO.mono HSo6.out (by omega)⟩
              case measure => simp [intOf]; omega
            · have hoo' : (o.toList == ow.toList) = false := by simpa using hoo
              go_region_held3 (fun w' => w'.cell? ⟨wr.heap.size, 1, none⟩ = some (.string o) ∧ w'.cell? ⟨O 0, 2, none⟩ = some (.string ow)) (first | exact H0.out | assumption) (fail)
              clear H0
              rename_i hHeld
              clear hHeld
              generalize hWd : (wr.alloc (Obj.cells #[Value.string p, Value.string o, Value.bool t] 57)).drew = Wd at *
              have k0 := cell_of_block HW0.out 0
              have k1 := cell_of_block HW0.out 1
              have k2 := cell_of_block HW0.out 2
              have HSoW : Hid (SO w Wd q hm ck (seen.push e.born) (s * 65536 + j)) := HSo4.out
              clear hWd HW0
              obtain ⟨nn, v, xs, hnn, ⟨va, vc, hvf⟩, hlk, hown, hbs, hst⟩ := HSoW.out.append (by omega) hq.symm hkz [.string p, .string o, .bool t] rfl
              subst hvf
              have HOwn : Hid _ := hown
              have HBs : Hid _ := hbs
              have HSt : Hid _ := hst
              have HNw : Hid (∀ (j : Nat) (u : Value), [Value.string p, Value.string o, Value.bool t][j]? = some u → (Wd.alloc (.cells #[.string p, .string o, .bool t] 57)).cell? ((⟨Wd.heap.size, 0, none⟩ : Addr).add j) = some u) := by
                intro j u hj
                have := oneCell_new (w := Wd) (cs := [.string p, .string o, .bool t]) (t := 57) j u hj
                simpa only [World.size_setCell] using this
              clear hown hbs hst
              go_wp2_with (first | (at_builtin; refine wpList_append_big (by rfl) (.tmp 53) (.tmp 55) 55 (by rfl) q 57 _ 3 40 Try.underlying55 info57 (by rfl) (by decide) (by decide) (.slice va nn vc) nn xs (by rfl) HOwn.out ⟨Wd.heap.size, 0, none⟩ [.string p, .string o, .bool t] (by rfl) (by rfl) HNw.out (fun u hu => by simp at hu; rcases hu with rfl | rfl | rfl <;> rfl) hnn HBs.out ?_; intro u2 w5 ho hg hl; obtain ⟨w6, hu6, hso6⟩ := HSt.out u2 w5 ho hg hl; have HSo6 : Hid (SO w w6 q hm ck (seen.push e.born) (s * 65536 + j + 1)) := hso6; clear ho hg hl hso6) | go_in)
              go_roundw
              case rel => exact ⟨j + 1, by omega, by go_num, SO.mono HSo6.out (by omega)⟩
              case measure => simp [intOf]; omega
          · obtain rfl : j = m := by omega
            have hltx := hso3.measure es
            clear hso3
            go_wp2
            go_roundw
            case rel => exact ⟨seen.push e.born, s + 1, by omega, SO.mono HSo3.out (by omega)⟩
            case measure => rw [hltx, HSo.out.measure es]; exact hlt2

theorem zzSet_any {w : World} {sb so cap : Nat} {O : Nat → Nat} {hm base : Nat} {db nm ow nw : ByteArray} {N : Nat} {S : Nat → ByteArray} {keys : List ByteArray} {vs : ByteArray → Value} {R : Nat → Gr} {n : Nat} (h : Snap w sb so cap O hm base db nm ow N S keys (rightsOf R n) vs) (hN : N ≤ 65536) (hn : n ≤ 65536) (hkl : keys.length ≤ 200000) (znw : nw.size ≤ maxLen) :
    Calls Try.prog 13 #[Ptr sb, .string nw] w fun e w' => e = .returned (.tuple #[]) ∧ Fr (fun b => b = so) w w' ∧ ∀ i, 1 ≤ i → i ≤ N → w'.cell? ⟨so, i, none⟩ = some (Ptr (O i)) := by
  have hC := setOwner_any h hN hn hkl znw
  clear h
  go_enter Try.func13, Try.ntmps13
  go_wp2_with fail
  refine hC.mono ?_
  rintro e w1 ⟨rfl, h1, h2⟩
  clear hC
  have H1 : Hid _ := h1
  have H2 : Hid _ := h2
  clear h1 h2
  go_wp2
  go_end0
  exact ⟨rfl, H1.out, H2.out⟩
end Go.Proofs.Qxb6602344a
