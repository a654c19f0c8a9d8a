import Derived.Test.Qxb6602344aBy
namespace Go.Proofs.Qxb6602344a
open Go.ChangeShapes Go.WideShapes Go.ChangeAt Go.RowKit
open Classical
set_option linter.unusedVariables false
set_option linter.unusedSimpArgs false

theorem rightsOf_idx (R : Nat → Gr) (n : Nat) (k : ByteArray) : rightsOf R n k = (idxL R n k).flatMap fun i => rightCells (R i) := by
  unfold rightsOf idxL
  induction (List.range n) with
  | nil => rfl
  | cons i l ih =>
    rw [List.flatMap_cons, ih]
    by_cases h : (R i).g = k
    · rw [if_pos h, List.filter_cons_of_pos (by simpa using h), List.flatMap_cons]
    · rw [if_neg h, List.filter_cons_of_neg (by simpa using h), List.nil_append]
theorem flat_get (R : Nat → Gr) : ∀ (I : List Nat) (j i c : Nat), I[j]? = some i → c < 3 → (I.flatMap fun i => rightCells (R i))[j * 3 + c]? = (rightCells (R i))[c]?
  | [], j, i, c, h, _ => by simp at h
  | x :: I, 0, i, c, h, hc => by
    have : x = i := by simpa using h
    subst this
    rw [List.flatMap_cons, List.getElem?_append_left (by simp [rightCells]; omega), Nat.zero_mul, Nat.zero_add]
  | x :: I, j + 1, i, c, h, hc => by
    have h' : I[j]? = some i := by simpa using h
    rw [List.flatMap_cons, List.getElem?_append_right (by simp [rightCells]; omega)]
    have e : (j + 1) * 3 + c - (rightCells (R x)).length = j * 3 + c := by simp [rightCells]; omega
    rw [e]
    exact flat_get R I j i c h' hc
theorem take_map_succ {α : Type} (I : List Nat) (f : Nat → α) {j i : Nat} (h : I[j]? = some i) : (I.take (j + 1)).map f = (I.take j).map f ++ [f i] := by
  rw [List.take_add_one, h]
  simp

/-- A row stays when another grows. -/
theorem row_keep {wr w2 : World} {base : Nat} {e' : TypeId} {s' m : Nat} {u v : Value} {ys : List Value} {o : Obj} (h : wr.ownsRow base e' s' u m ys) (hg : (wr.alloc o).grownBy w2 v.ownBlock) (hap : ∀ g, u.ownBlock = some g → v.ownBlock ≠ some g) : w2.ownsRow base e' s' u m ys :=
  ownsRow_kept h (fun g hu => by
    obtain ⟨cur, hc⟩ := ownsRow_block h hu
    have hl := lt_of_heap hc
    rw [hg.block g (by rw [World.size_alloc]; omega) (fun e => hap g hu e.symm), Below.heap_alloc _ _ _ hl])
theorem own_alloc {wr : World} {base : Nat} {e' : TypeId} {s' m : Nat} {u : Value} {ys : List Value} (h : wr.ownsRow base e' s' u m ys) (o : Obj) : (wr.alloc o).ownsRow base e' s' u m ys :=
  ownsRow_kept h (fun g hu => by
    obtain ⟨cur, hc⟩ := ownsRow_block h hu
    exact Below.heap_alloc _ _ _ (lt_of_heap hc))
theorem type_apart {wr : World} {base base' : Nat} {e e' : TypeId} {s s' m m' : Nat} {u v : Value} {xs ys : List Value} (h : wr.ownsRow base e s u m xs) (h' : wr.ownsRow base' e' s' v m' ys) (hne : e ≠ e') : ∀ g, u.ownBlock = some g → v.ownBlock ≠ some g := by
  intro g hu hv
  obtain ⟨cur, hc⟩ := ownsRow_block h hu
  obtain ⟨cur', hc'⟩ := ownsRow_block h' hv
  rw [hc] at hc'
  cases hc'
  exact hne rfl

/-- The three rows while they grow. -/
structure HL (w wr : World) (q j : Nat) (I : List Nat) (R : Nat → Gr) (v1 v2 v3 : Value) : Prop where
  o1 : wr.ownsRow q 9 1 v1 j ((I.take j).map fun i => Value.string (R i).p)
  o2 : wr.ownsRow q 9 1 v2 j ((I.take j).map fun i => Value.string (R i).o)
  o3 : wr.ownsRow q 4 1 v3 j ((I.take j).map fun i => Value.bool (R i).t)
  ap : ∀ g, v1.ownBlock = some g → v2.ownBlock ≠ some g
  bel : Below q w wr

theorem HL.step1 {w wr w2 : World} {q j : Nat} {I : List Nat} {R : Nat → Gr} {v1 v2 v3 v1' : Value} {x : Value} (h : HL w wr q j I R v1 v2 v3) (hq : q ≤ wr.heap.size) {ys : List Value} (ho : w2.ownsRow q 9 1 v1' (j + 1) ys) (hg : (wr.alloc (.cells #[x] 9)).grownBy w2 v1.ownBlock) (hl : v1'.ownBlock = v1.ownBlock ∨ v1'.ownBlock = some (wr.alloc (.cells #[x] 9)).heap.size) :
    w2.ownsRow q 9 1 v2 j ((I.take j).map fun i => Value.string (R i).o) ∧ w2.ownsRow q 4 1 v3 j ((I.take j).map fun i => Value.bool (R i).t) ∧ (∀ g, v1'.ownBlock = some g → v2.ownBlock ≠ some g) ∧ Below q w w2 ∧ q ≤ w2.heap.size := by
  have hs := hg.size
  rw [World.size_alloc] at hs
  refine ⟨row_keep h.o2 hg (fun g hu hv => h.ap g hv hu), row_keep h.o3 hg (type_apart h.o3 h.o1 (by decide)), fun g h1 h2 => ?_, (h.bel.alloc hq _).grown hg (by rw [World.size_alloc]; omega) (fun g hg => own_ge h.o1 hg), by omega⟩
  rcases hl with hl | hl
  · exact h.ap g (by rw [← hl]; exact h1) h2
  · rw [hl, World.size_alloc] at h1
    cases h1
    obtain ⟨cur, hc⟩ := ownsRow_block h.o2 h2
    have := lt_of_heap hc
    omega

theorem HL.step2 {w w1 w2 : World} {q j : Nat} {u1 v2 v3 u2 : Value} {x : Value} {l1 l2 l3 ys : List Value} (o1 : w1.ownsRow q 9 1 u1 (j + 1) l1) (o2 : w1.ownsRow q 9 1 v2 j l2) (o3 : w1.ownsRow q 4 1 v3 j l3) (ap : ∀ g, u1.ownBlock = some g → v2.ownBlock ≠ some g) (bel : Below q w w1) (hq : q ≤ w1.heap.size)
    (ho : w2.ownsRow q 9 1 u2 (j + 1) ys) (hg : (w1.alloc (.cells #[x] 9)).grownBy w2 v2.ownBlock) (hl : u2.ownBlock = v2.ownBlock ∨ u2.ownBlock = some (w1.alloc (.cells #[x] 9)).heap.size) :
    w2.ownsRow q 9 1 u1 (j + 1) l1 ∧ w2.ownsRow q 4 1 v3 j l3 ∧ (∀ g, u1.ownBlock = some g → u2.ownBlock ≠ some g) ∧ Below q w w2 ∧ q ≤ w2.heap.size := by
  have hs := hg.size
  rw [World.size_alloc] at hs
  refine ⟨row_keep o1 hg ap, row_keep o3 hg (type_apart o3 o2 (by decide)), fun g h1 h2 => ?_, (bel.alloc hq _).grown hg (by rw [World.size_alloc]; omega) (fun g hg => own_ge o2 hg), by omega⟩
  rcases hl with hl | hl
  · exact ap g h1 (by rw [← hl]; exact h2)
  · rw [hl, World.size_alloc] at h2
    cases h2
    obtain ⟨cur, hc⟩ := ownsRow_block o1 h1
    have := lt_of_heap hc
    omega
theorem HL.step3 {w w2 w3 : World} {q j : Nat} {u1 u2 v3 : Value} {x : Value} {l1 l2 l3 : List Value} (o1 : w2.ownsRow q 9 1 u1 (j + 1) l1) (o2 : w2.ownsRow q 9 1 u2 (j + 1) l2) (o3 : w2.ownsRow q 4 1 v3 j l3) (bel : Below q w w2) (hq : q ≤ w2.heap.size)
    (hg : (w2.alloc (.cells #[x] 4)).grownBy w3 v3.ownBlock) :
    w3.ownsRow q 9 1 u1 (j + 1) l1 ∧ w3.ownsRow q 9 1 u2 (j + 1) l2 ∧ Below q w w3 := by
  have hs := hg.size
  rw [World.size_alloc] at hs
  exact ⟨row_keep o1 hg (type_apart o1 o3 (by decide)), row_keep o2 hg (type_apart o2 o3 (by decide)), (bel.alloc hq _).grown hg (by rw [World.size_alloc]; omega) (fun g hg => own_ge o3 hg)⟩

set_option maxRecDepth 20000 in
set_option maxHeartbeats 4000000 in
theorem held_any {w : World} {sb so cap : Nat} {O : Nat → Nat} {hm base : Nat} {db nm ow : ByteArray} {N : Nat} {S : Nat → ByteArray} {keys : List ByteArray} {vs : ByteArray → Value} {R : Nat → Gr} {n : Nat} (h : Snap w sb so cap O hm base db nm ow N S keys (rightsOf R n) vs) (hN : N ≤ 65536) (hn : n ≤ 65536) {k : ByteArray} (hk : k.size ≤ maxLen) :
    Calls Try.prog 20 #[Ptr sb, .int .i64 0, .string k] w fun e w' => ∃ v1 v2 v3, e = .returned (.tuple #[v1, v2, v3, .bool (decide (k ∈ keys))]) ∧ HL w w' w.heap.size (idxL R n k).length (idxL R n k) R v1 v2 v3 := by
  obtain ⟨m, hm0⟩ := h.gm.at k
  obtain ⟨a, c, hv⟩ := own_form hm0
  have hl2 := (h.gm.map.look (T := 54) (E := 55) Try.underlying54 (zero55 _) hk).2
  change (Instr.lookup 54 (.map (some hm)) (.string k) true).run Try.prog w = .ok (.tuple #[valAt keys vs k, .bool (decide (k ∈ keys))]) w at hl2
  rw [hv] at hl2
  have c1 := h.c1
  have c2 := h.obj (Nat.zero_le N)
  have c3 : w.cell? ⟨O 0, 3, none⟩ = some (.map (some hm)) := cell_of_block h.o0 3
  have hI : (0 : Int) < (N : Int) + 1 := by omega
  have hlen : (idxL R n k).length = m := by
    have := hm0.1
    rw [rightsOf_idx] at this
    have hf : ∀ I : List Nat, (I.flatMap fun i => rightCells (R i)).length = I.length * 3 := fun I => by
      induction I with
      | nil => rfl
      | cons x I ih => rw [List.flatMap_cons, List.length_append, ih]; simp [rightCells]; omega
    rw [hf] at this
    omega
  have hle : m ≤ 65536 := by
    have := idxOf_len R n k
    unfold idxOf at this
    rw [List.length_map] at this
    omega
  have HR : Hid (∀ j, j < m → ∃ i g0, (idxL R n k)[j]? = some i ∧ a = some ⟨g0, 0, none⟩ ∧ w.cell? ⟨g0, j * 3, none⟩ = some (.string (R i).p) ∧ w.cell? ⟨g0, j * 3 + 1, none⟩ = some (.string (R i).o) ∧ w.cell? ⟨g0, j * 3 + 2, none⟩ = some (.bool (R i).t)) := by
    intro j hj
    have hj' : j < (idxL R n k).length := by omega
    refine ⟨(idxL R n k)[j], ?_⟩
    have e := List.getElem?_eq_getElem hj'
    generalize (idxL R n k)[j] = i at e
    rw [hv] at hm0
    rcases hm0.2 with ⟨_, h0⟩ | ⟨g0, cap0, cur, hs, _, _⟩
    · omega
    have hc := hm0.cells (g := g0) (by cases hs; rfl)
    cases hs
    refine ⟨g0, e, rfl, ?_, ?_, ?_⟩
    · have := hc (j * 3 + 0) (.string (R i).p) (by rw [rightsOf_idx, flat_get R _ j i 0 e (by omega)]; rfl)
      rwa [Addr.add_mid, Nat.zero_add] at this
    · have := hc (j * 3 + 1) (.string (R i).o) (by rw [rightsOf_idx, flat_get R _ j i 1 e (by omega)]; rfl)
      rwa [Addr.add_mid, Nat.zero_add] at this
    · have := hc (j * 3 + 2) (.bool (R i).t) (by rw [rightsOf_idx, flat_get R _ j i 2 e (by omega)]; rfl)
      rwa [Addr.add_mid, Nat.zero_add] at this
  have H0 : Hid (HL w w w.heap.size 0 (idxL R n k) R (.slice none 0 0) (.slice none 0 0) (.slice none 0 0)) := ⟨World.ownsRow_nil _ _ _ _, World.ownsRow_nil _ _ _ _, World.ownsRow_nil _ _ _ _, (fun g hg => by cases hg), Below.refl _ _⟩
  rw [hlen]
  clear h hm0 hv hlen
  generalize decide (k ∈ keys) = pb at *
  generalize idxL R n k = I at *
  go_enter Try.func20, Try.ntmps20
  go_wp2
  clear c1 c2 c3 hl2
  generalize hq : w.heap.size = q at *
  go_loopw [6, 7, 8, 12] (fun x1 x2 x3 t wr => ∃ (j : Nat) (v1 v2 v3 : Value), j ≤ m ∧ t = .int .i64 j ∧ x1 = v1 ∧ x2 = v2 ∧ x3 = v3 ∧ HL w wr q j I R v1 v2 v3) (fun _ _ _ t _ => m - (intOf t).toNat)
  case atStart => exact ⟨0, _, _, _, Nat.zero_le _, rfl, rfl, rfl, rfl, H0.out⟩
  case round =>
    obtain ⟨j, v1, v2, v3, hj, rfl, x1, x2, x3, hhl⟩ := hrel
    have y1 := x1.symm
    have y2 := x2.symm
    have y3 := x3.symm
    clear x1 x2 x3
    subst y1
    subst y2
    subst y3
    have HH : Hid (HL w wr q j I R v1 v2 v3) := hhl
    clear H0
    have hqw : q ≤ wr.heap.size := by rw [← hq]; exact hhl.bel.size
    by_cases hlt : j < m
    · obtain ⟨i, g0, hij, rfl, d0, d1, d2⟩ := HR.out j hlt
      have hjI : (j : Int) < m := by omega
      have d0' : wr.cell? ⟨g0, j * 3, none⟩ = some (.string (R i).p) := cell_later (by rw [hq]; exact hhl.bel) d0
      have HC : Hid (∀ W, Below q w W → W.cell? ⟨g0, j * 3 + 1, none⟩ = some (.string (R i).o) ∧ W.cell? ⟨g0, j * 3 + 2, none⟩ = some (.bool (R i).t)) := fun W hW => ⟨cell_later (by rw [hq]; exact hW) d1, cell_later (by rw [hq]; exact hW) d2⟩
      have HO1 : Hid _ := own_alloc hhl.o1 (.cells #[.string (R i).p] 9)
      have HQ1 : Hid (q ≤ (wr.alloc (.cells #[.string (R i).p] 9)).heap.size) := by
        show q ≤ _
        rw [World.size_alloc]; omega
      clear d0 d1 d2 hhl
      go_wp2_with (first | (at_builtin; refine wpList_append_own1 (by rfl) (.tmp 34) (.tmp 40) 23 (by rfl) q 9 _ 1 16 Try.underlying23 info9 (by rfl) (by decide) (by decide) v1 j _ (by rfl) HO1.out ⟨wr.heap.size, 0, none⟩ [.string (R i).p] (by rfl) (by rfl) oneCell_new (fun u hu => by simp at hu; subst hu; rfl) (by omega) HQ1.out ?_; intro u1 w1 ho1 hg1 hl1; obtain ⟨a2, a3, aap, ab, aq⟩ := HH.out.step1 hqw ho1 hg1 hl1; have hd1 := (HC.out w1 ab).1; have HO2 : Hid _ := own_alloc a2 (.cells #[.string (R i).o] 9); have A1 : Hid _ := ho1; have A2 : Hid _ := a2; have A3 : Hid _ := a3; have AP : Hid _ := aap; have AB : Hid (Below q w w1) := ab; have HQ2 : Hid (q ≤ (w1.alloc (.cells #[.string (R i).o] 9)).heap.size) := (by show q ≤ _; rw [World.size_alloc]; omega); clear ho1 hg1 hl1 a2 a3 aap ab)
                         | (at_builtin; refine wpList_append_own1 (by rfl) (.tmp 42) (.tmp 48) 23 (by rfl) q 9 _ 1 16 Try.underlying23 info9 (by rfl) (by decide) (by decide) v2 j _ (by rfl) HO2.out ⟨w1.heap.size, 0, none⟩ [.string (R i).o] (by rfl) (by rfl) oneCell_new (fun u hu => by simp at hu; subst hu; rfl) (by omega) HQ2.out ?_; intro u2 w2 ho2 hg2 hl2; obtain ⟨b1, b3, bap, bb, bq⟩ := HL.step2 A1.out A2.out A3.out AP.out AB.out aq ho2 hg2 hl2; have hd2 := (HC.out w2 bb).2; have HO3 : Hid _ := own_alloc b3 (.cells #[.bool (R i).t] 4); have B1 : Hid _ := b1; have B2 : Hid _ := ho2; have B3 : Hid _ := b3; have BP : Hid _ := bap; have BB : Hid (Below q w w2) := bb; have HQ3 : Hid (q ≤ (w2.alloc (.cells #[.bool (R i).t] 4)).heap.size) := (by show q ≤ _; rw [World.size_alloc]; omega); clear ho2 hg2 hl2 b1 b3 bap bb)
                         | (at_builtin; refine wpList_append_own1 (by rfl) (.tmp 50) (.tmp 56) 27 (by rfl) q 4 _ 1 1 Try.underlying27 info4 (by rfl) (by decide) (by decide) v3 j _ (by rfl) HO3.out ⟨w2.heap.size, 0, none⟩ [.bool (R i).t] (by rfl) (by rfl) oneCell_new (fun u hu => by simp at hu; subst hu; rfl) (by omega) HQ3.out ?_; intro u3 w3 ho3 hg3 hl3; obtain ⟨e1, e2, eb⟩ := HL.step3 B1.out B2.out B3.out BB.out bq hg3; have E1 : Hid _ := e1; have E2 : Hid _ := e2; have E3 : Hid _ := ho3; have EB : Hid (Below q w w3) := eb; clear ho3 hg3 hl3 e1 e2 eb) | go_in)
      go_roundw
      case rel => exact ⟨j + 1, u1, u2, u3, by omega, by go_num, rfl, rfl, rfl, ⟨by rw [take_map_succ I _ hij]; exact E1.out, by rw [take_map_succ I _ hij]; exact E2.out, by rw [take_map_succ I _ hij]; exact E3.out, BP.out, EB.out⟩⟩
      case measure => simp [intOf]; omega
    · obtain rfl : j = m := by omega
      clear hhl
      go_wp2
      (try simp only [Exit.inBlock, Exit.then])
      refine bodyPost_ret (results_tmp4 rfl _ _ _) rfl ?_
      subst hq
      exact ⟨_, _, _, rfl, HH.out⟩
end Go.Proofs.Qxb6602344a
