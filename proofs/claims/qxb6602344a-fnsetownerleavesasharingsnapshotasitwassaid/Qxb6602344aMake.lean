import Derived.Test.Qxb6602344aStore
namespace Go.Proofs.Qxb6602344a
open Go.ChangeShapes Go.WideShapes Go.ChangeAt Go.RowKit
open Classical
set_option linter.unusedVariables false
set_option linter.unusedSimpArgs false

/-- A right's three cells. -/
def rightCells (r : Gr) : List Value := [.string r.p, .string r.o, .bool r.t]
/-- The rights of k among the first n grants. -/
noncomputable def rightsOf (R : Nat → Gr) (n : Nat) (k : ByteArray) : List Value := (List.range n).flatMap fun i => if (R i).g = k then rightCells (R i) else []
theorem rightsOf_zero (R : Nat → Gr) : rightsOf R 0 = fun _ => [] := rfl
theorem rightsOf_succ (R : Nat → Gr) (n : Nat) : rightsOf R (n + 1) = updV (rightsOf R n) (R n).g (rightsOf R n (R n).g ++ rightCells (R n)) := by
  funext k
  unfold rightsOf updV
  rw [List.range_succ, List.flatMap_append]
  by_cases h : k = (R n).g
  · subst h; simp
  · rw [if_neg h]
    have : ¬ (R n).g = k := fun e => h e.symm
    simp [this]
theorem rightsOf_le (R : Nat → Gr) (n : Nat) (k : ByteArray) : (rightsOf R n k).length ≤ n * 3 := by
  induction n with
  | zero => simp [rightsOf]
  | succ n ih =>
    rw [rightsOf_succ]
    unfold updV
    split
    · next h => subst h; simp [rightCells]; omega
    · omega
theorem updV_nil (k : ByteArray) : updV (fun _ : ByteArray => ([] : List Value)) k [] = fun _ => [] := by
  funext x; unfold updV; split <;> rfl
theorem info57 : (Try.prog.info? 57).map (fun i => (i.zero, i.size, i.bytes)) = some (some (.agg #[.string ⟨#[]⟩, .string ⟨#[]⟩, .bool false]), 3, 40) := by kernel_rfl
theorem info59 : (Try.prog.info? 59).map (fun i => (i.zero, i.size, i.bytes)) = some (some (.pointer none), 1, 8) := by kernel_rfl
theorem zero55 (w : World) : (zeroValue 55).run Try.prog w = .ok (.slice none 0 0) w := by kernel_rfl
theorem oneCell_new {w : World} {cs : List Value} {t : TypeId} : ∀ j u, cs[j]? = some u → (w.alloc (.cells cs.toArray t)).cell? ((⟨w.heap.size, 0, none⟩ : Addr).add j) = some u := by
  intro j u hj
  rw [Addr.add_mid, Nat.zero_add, cell_of_block (heap_alloc_new _ _)]
  simpa using hj

/-- A SNAPSHOT IN MEMORY. -/
structure Snap (w : World) (sb so cap : Nat) (O : Nat → Nat) (hm base : Nat) (db nm ow : ByteArray) (N : Nat) (S : Nat → ByteArray) (keys : List ByteArray) (G : ByteArray → List Value) (vs : ByteArray → Value) : Prop where
  top : w.heap[sb]? = some (.cells #[.string db, .slice (some ⟨so, 0, none⟩) (N + 1) cap] 64 (0, 0))
  objs : ∃ c, w.heap[so]? = some (.cells c 59 (0, 0)) ∧ ∀ i, i ≤ N → c[i]? = some (Ptr (O i))
  o0 : w.heap[O 0]? = some (.cells #[.int .i64 0, .string nm, .string ow, .map (some hm)] 62 (0, 0))
  os : ∀ i, i < N → w.heap[O (i + 1)]? = some (.cells #[.int .i64 2, .string (S i), .string ow, .map none] 62 (0, 0))
  gm : GM w hm base 57 3 keys G vs

theorem make58 (n : Nat) (hn : n ≤ 65536) (w : World) : ∃ Z : Array Value, Z.size = n + 1 ∧ (Instr.makeSlice 58 (.int .i64 0) (.int .i64 (1 + (n : Int)))).run Try.prog w = .ok (.slice (some ⟨w.heap.size, 0, none⟩) 0 (n + 1)) (w.alloc (.cells Z 59)) := by
  obtain ⟨i0, hi, hz0, hz1, hz2⟩ := info_parts info59
  have := run_make (P := Try.prog) w 58 59 i0 (.pointer none) Try.underlying58 hi hz0 .i64 .i64 0 (1 + (n : Int)) (by omega) (by omega) (by rw [hz2]; omega) (by omega)
  refine ⟨madeCells (Value.cells (.pointer none)) ((n + 1) * 1), by simp [size_madeCells], ?_⟩
  rw [this, hz1, show (1 + (n : Int)).toNat = n + 1 by omega]
  simp
/-- The objects while they are laid. -/
structure OB (w wr : World) (q k n : Nat) (O : Nat → Nat) (v : Value) (s1 s2 : ByteArray) (S : Nat → ByteArray) (R : Nat → Gr) (keys : List ByteArray) (vs : ByteArray → Value) : Prop where
  own : wr.ownsRow q 59 1 v (k + 1) ((List.range (k + 1)).map fun i => Ptr (O i))
  o0 : wr.heap[O 0]? = some (.cells #[.int .i64 0, .string s1, .string s2, .map (some q)] 62 (0, 0))
  os : ∀ i, i < k → wr.heap[O (i + 1)]? = some (.cells #[.int .i64 2, .string (S i), .string s2, .map none] 62 (0, 0))
  gm : GM wr q q 57 3 keys (rightsOf R n) vs
  bel : Below q w wr
theorem row_far {wr w2 w3 : World} {base n b : Nat} {v : Value} {xs : List Value} {o : Obj} (hown : wr.ownsRow base 59 1 v n xs) (h2 : ∀ b, b < wr.heap.size → w2.heap[b]? = wr.heap[b]?) (hs : wr.heap.size ≤ w2.heap.size) (hg : w2.grownBy w3 v.ownBlock) (hb : wr.heap[b]? = some o) (hne : ∀ c f, o ≠ .cells c 59 f) : w3.heap[b]? = some o := by
  have hlt := lt_of_heap hb
  rw [hg.block b (by omega) (fun e => ?_), h2 b hlt, hb]
  obtain ⟨cur, hc⟩ := ownsRow_block hown e.symm
  rw [hb] at hc
  exact hne _ _ (Option.some.inj hc)
theorem OB.init {w wr w4 : World} {q n8 n : Nat} {Z : Array Value} {v' : Value} {s1 s2 : ByteArray} {S : Nat → ByteArray} {R : Nat → Gr} {keys : List ByteArray} {vs : ByteArray → Value} (hgm : GM wr q q 57 3 keys (rightsOf R n) vs) (hbel : Below q w wr) (hq : q ≤ wr.heap.size) (hZ : Z.size = n8 + 1)
    (hown : w4.ownsRow q 59 1 v' (0 + 1) ([] ++ [Ptr (wr.heap.size + 1)]))
    (hg : (((wr.alloc (.cells Z 59)).alloc (.cells #[.int .i64 0, .string s1, .string s2, .map (some q)] 62)).alloc (.cells #[Ptr (wr.heap.size + 1)] 59)).grownBy w4 (some wr.heap.size)) : OB w w4 q 0 n (fun _ => wr.heap.size + 1) v' s1 s2 S R keys vs := by
  have hold : ∀ b, b < wr.heap.size → w4.heap[b]? = wr.heap[b]? := fun b hb => by
    rw [hg.block b (by simp; omega) (fun e => by cases e; omega), Below.heap_alloc _ _ _ (by simp; omega), Below.heap_alloc _ _ _ (by simp; omega), Below.heap_alloc _ _ _ hb]
  refine ⟨by simpa using hown, ?_, fun i hi => by omega, hgm.kept (fun b hb _ => hold b hb), hbel.trans ⟨hg.os, hg.tape, hg.output, by have := hg.size; simp at this; omega, fun b hb => hold b (by omega)⟩⟩
  rw [hg.block _ (by simp) (fun e => by have := Option.some.inj e; omega), Below.heap_alloc _ _ _ (by simp)]
  have := heap_alloc_new (wr.alloc (.cells Z 59)) (.cells #[.int .i64 0, .string s1, .string s2, .map (some q)] 62)
  simpa using this
noncomputable def updN (O : Nat → Nat) (i v : Nat) : Nat → Nat := fun j => if j = i then v else O j
theorem OB.step {w wr w3 : World} {q k n : Nat} {O : Nat → Nat} {v v' : Value} {s1 s2 : ByteArray} {S : Nat → ByteArray} {R : Nat → Gr} {keys : List ByteArray} {vs : ByteArray → Value} (h : OB w wr q k n O v s1 s2 S R keys vs) (hq : q ≤ wr.heap.size)
    (hown : w3.ownsRow q 59 1 v' (k + 1 + 1) ((List.range (k + 1)).map (fun i => Ptr (O i)) ++ [Ptr wr.heap.size]))
    (hg : ((wr.alloc (.cells #[.int .i64 2, .string (S k), .string s2, .map none] 62)).alloc (.cells #[Ptr wr.heap.size] 59)).grownBy w3 v.ownBlock) : OB w w3 q (k + 1) n (updN O (k + 1) wr.heap.size) v' s1 s2 S R keys vs := by
  have h2 : ∀ b, b < wr.heap.size → ((wr.alloc (.cells #[.int .i64 2, .string (S k), .string s2, .map none] 62)).alloc (.cells #[Ptr wr.heap.size] 59)).heap[b]? = wr.heap[b]? := fun b hb => by
    rw [Below.heap_alloc _ _ _ (by simp; omega), Below.heap_alloc _ _ _ hb]
  have hfar : ∀ {b : Nat} {o : Obj}, wr.heap[b]? = some o → (∀ c f, o ≠ .cells c 59 f) → w3.heap[b]? = some o := fun hb hne => row_far h.own h2 (by simp; omega) hg hb hne
  have hO0 : updN O (k + 1) wr.heap.size 0 = O 0 := by unfold updN; rw [if_neg (by omega)]
  refine ⟨?_, ?_, fun i hi => ?_, h.gm.kept (fun b hb hc => ?_), h.bel.trans ?_⟩
  · have e : (List.range (k + 1 + 1)).map (fun i => Ptr (updN O (k + 1) wr.heap.size i)) = (List.range (k + 1)).map (fun i => Ptr (O i)) ++ [Ptr wr.heap.size] := by
      rw [List.range_succ (n := k + 1), List.map_append]
      congr 1
      · apply List.map_congr_left
        intro i hi
        have : i < k + 1 := by simpa using hi
        unfold updN; rw [if_neg (by omega)]
      · simp [updN]
    rw [e]; exact hown
  · rw [hO0]; exact hfar h.o0 (fun c f e => by cases e)
  · by_cases e : i = k
    · subst e
      have : updN O (i + 1) wr.heap.size (i + 1) = wr.heap.size := by simp [updN]
      rw [this, hg.block _ (by simp; omega) (fun e => ?_), Below.heap_alloc _ _ _ (by simp), heap_alloc_new]
      obtain ⟨cur, hc⟩ := ownsRow_block h.own e.symm
      exact absurd (lt_of_heap hc) (Nat.lt_irrefl _)
    · have : updN O (k + 1) wr.heap.size (i + 1) = O (i + 1) := by unfold updN; rw [if_neg (by omega)]
      rw [this]
      exact hfar (h.os i (by omega)) (fun c f e => by cases e)
  · rcases hc with rfl | ⟨cur, hc⟩
    · obtain ⟨es, ck, h1, _⟩ := h.gm.map.ex
      rw [h1]; exact hfar h1 (fun c f e => by cases e)
    · rw [hc]; exact hfar hc (fun c f e => by cases e)
  · refine ⟨hg.os, hg.tape, hg.output, by have := hg.size; simp at this; omega, fun b hb => ?_⟩
    rw [hg.block b (by simp; omega) (fun e => by have := own_ge h.own e.symm; omega), h2 b (by omega)]

set_option maxRecDepth 20000 in
set_option maxHeartbeats 4000000 in
theorem make_any (w : World) (s0 s1 s2 : ByteArray) (a3 a4 a5 a6 a7 a8 : Option Addr) (n n7 n8 c3 c4 c5 c6 c7 c8 : Nat) (R : Nat → Gr) (E S : Nat → ByteArray) (hn : n ≤ 65536) (hn7 : n7 ≤ 65536) (hn8 : n8 ≤ 65536)
    (h3 : StrV w a3 n (fun i => (R i).g)) (h4 : StrV w a4 n (fun i => (R i).p)) (h5 : StrV w a5 n (fun i => (R i).o)) (h6 : BoolV w a6 n (fun i => (R i).t)) (h7 : StrV w a7 n7 E) (h8 : StrV w a8 n8 S)
    (zR : ∀ i, i < n → (R i).g.size ≤ maxLen) (zE : ∀ i, i < n7 → (E i).size ≤ maxLen) :
    Calls Try.prog 11 #[.string s0, .string s1, .string s2, .slice a3 n c3, .slice a4 n c4, .slice a5 n c5, .slice a6 n c6, .slice a7 n7 c7, .slice a8 n8 c8] w fun e w' =>
      ∃ sb so cap O hm keys vs, e = .returned (Ptr sb) ∧ Snap w' sb so cap O hm w.heap.size s0 s1 s2 n8 S keys (rightsOf R n) vs ∧ (∀ x, x ∈ keys ↔ (∃ i, i < n7 ∧ E i = x) ∨ ∃ i, i < n ∧ (R i).g = x) ∧ w.heap.size ≤ so ∧ Below w.heap.size w w' := by
  have H3 : Hid _ := h3
  have H4 : Hid _ := h4
  have H5 : Hid _ := h5
  have H6 : Hid _ := h6
  have H7 : Hid _ := h7
  have H8 : Hid _ := h8
  have ZR : Hid _ := zR
  have ZE : Hid _ := zE
  have HM0 : Hid (GM (w.alloc (.map #[] 0)) w.heap.size w.heap.size 57 3 [] (fun _ => []) (fun _ => .slice none 0 0)) := GM.made w w.heap.size 57 3
  have HB0 : Hid (Below w.heap.size w (w.alloc (.map #[] 0))) := (Below.refl _ _).alloc (Nat.le_refl _) _
  have hmm := @run_makeMap Try.prog
  clear h3 h4 h5 h6 h7 h8 zR zE
  go_enter Try.func11, Try.ntmps11
  go_wp2
  clear hmm
  generalize hq : w.heap.size = q at *
  have hsz0 : q < (w.alloc (.map #[] 0)).heap.size := by simp; omega
  go_loopw [20] (fun t wr => ∃ (k : Nat) (keys : List ByteArray) (vs : ByteArray → Value), k ≤ n7 ∧ t = .int .i64 k ∧ GM wr q q 57 3 keys (fun _ => []) vs ∧ (∀ x, x ∈ keys ↔ ∃ i, i < k ∧ E i = x) ∧ Below q w wr) (fun t _ => n7 - (intOf t).toNat)
  case atStart => exact ⟨0, [], _, Nat.zero_le _, rfl, HM0.out, by simp, HB0.out⟩
  case round =>
    obtain ⟨k, keys, vs, hk, rfl, hgm, hkeys, hbel⟩ := hrel
    have HG : Hid _ := hgm
    have HK : Hid _ := hkeys
    have HB : Hid (Below q w wr) := hbel
    clear hkeys HM0 HB0
    by_cases hlt : k < n7
    · obtain ⟨b, off, rfl, hc⟩ := H7.out (by omega)
      have c1 : wr.cell? ⟨b, off + k, none⟩ = some (.string (E k)) := cell_later (by rw [hq]; exact hbel) (hc k hlt)
      have hkI : (k : Int) < n7 := by omega
      obtain ⟨w3, hr, hm3, hfar, hgr, _⟩ := hgm.map.update (T := 54) (E := 55) Try.underlying54 (ZE.out k hlt) (.slice none 0 0)
      have HG3 : Hid (GM w3 q q 57 3 (addK keys (E k)) (fun _ => []) (updV vs (E k) (.slice none 0 0))) := by
        have := hgm.upd (k := E k) (World.ownsRow_nil wr q 57 3) (fun b hb _ => rfl) (Or.inl rfl) hm3 hfar
        rw [updV_nil] at this
        exact this
      have HB3 : Hid (Below q w w3) := hbel.grown hgr (by have := hgm.map.lt; omega) (fun k hk => by cases hk; exact Nat.le_refl _)
      clear hc hgm hbel hm3 hfar hgr
      go_wp2
      go_roundw
      case rel =>
        refine ⟨k + 1, _, _, by omega, by go_num, HG3.out, fun x => ?_, HB3.out⟩
        rw [mem_addK]
        constructor
        · rintro (h | rfl)
          · obtain ⟨i, h1, h2⟩ := (HK.out x).1 h
            exact ⟨i, by omega, h2⟩
          · exact ⟨k, by omega, rfl⟩
        · rintro ⟨i, h1, h2⟩
          by_cases e : i = k
          · subst e; exact Or.inr h2.symm
          · exact Or.inl ((HK.out x).2 ⟨i, by omega, h2⟩)
      case measure => simp [intOf]; omega
    obtain rfl : k = n7 := by omega
    clear hgm hbel
    have HL0 : Hid (∃ (keys : List ByteArray) (vs : ByteArray → Value), GM wr q q 57 3 keys (rightsOf R 0) vs ∧ (∀ x, x ∈ keys ↔ (∃ i, i < k ∧ E i = x) ∨ ∃ i, i < 0 ∧ (R i).g = x) ∧ Below q w wr) :=
      ⟨keys, vs, HG.out, fun x => by rw [HK.out x]; simp, HB.out⟩
    clear HG HK HB
    go_wp2
    go_loopw [21] (fun t wr => ∃ (j : Nat), j ≤ n ∧ t = .int .i64 j ∧ ∃ (keys : List ByteArray) (vs : ByteArray → Value), GM wr q q 57 3 keys (rightsOf R j) vs ∧ (∀ x, x ∈ keys ↔ (∃ i, i < k ∧ E i = x) ∨ ∃ i, i < j ∧ (R i).g = x) ∧ Below q w wr) (fun t _ => n - (intOf t).toNat)
    case atStart => exact ⟨0, Nat.zero_le _, rfl, HL0.out⟩
    case round =>
      obtain ⟨j, hj, rfl, keys, vs, hgm, hkeys, hbel⟩ := hrel
      have HG : Hid (GM wr q q 57 3 keys (rightsOf R j) vs) := hgm
      have HK : Hid _ := hkeys
      have HB : Hid (Below q w wr) := hbel
      clear hkeys HL0
      by_cases hlt : j < n
      · obtain ⟨b3, o3, rfl, e3⟩ := H3.out (by omega)
        obtain ⟨b4, o4, rfl, e4⟩ := H4.out (by omega)
        obtain ⟨b5, o5, rfl, e5⟩ := H5.out (by omega)
        obtain ⟨b6, o6, rfl, e6⟩ := H6.out (by omega)
        have HBq : Hid (∀ W, Below q w W → W.cell? ⟨b4, o4 + j, none⟩ = some (.string (R j).p) ∧ W.cell? ⟨b5, o5 + j, none⟩ = some (.string (R j).o) ∧ W.cell? ⟨b6, o6 + j, none⟩ = some (.bool (R j).t) ∧ Below q w W) := fun W hW =>
          ⟨cell_later (by rw [hq]; exact hW) (e4 j hlt), cell_later (by rw [hq]; exact hW) (e5 j hlt), cell_later (by rw [hq]; exact hW) (e6 j hlt), hW⟩
        have c3 : wr.cell? ⟨b3, o3 + j, none⟩ = some (.string (R j).g) := cell_later (by rw [hq]; exact hbel) (e3 j hlt)
        have hjI : (j : Int) < n := by omega
        have hz := ZR.out j hlt
        have hl1 : (Instr.lookup 54 (.map (some q)) (.string (R j).g) false).run Try.prog wr.drew = .ok (valAt keys vs (R j).g) wr.drew := ((hgm.map.same (w' := wr.drew) rfl).look (T := 54) (E := 55) Try.underlying54 (zero55 _) hz).1
        have hl2 : ∀ o : Obj, (Instr.lookup 54 (.map (some q)) (.string (R j).g) false).run Try.prog (wr.alloc o).drew = .ok (valAt keys vs (R j).g) (wr.alloc o).drew := fun o => ((hgm.map.same (w' := (wr.alloc o).drew) (Below.heap_alloc wr.drew o _ hgm.map.lt)).look (T := 54) (E := 55) Try.underlying54 (zero55 _) hz).1
        have HS0 : Hid _ := HBq.out wr.drew hbel.drew
        have HS1 : Hid (∀ o : Obj, _) := fun o => HBq.out (wr.drew.alloc o) (hbel.drew.alloc (by have := hgm.map.lt; simp; omega) o)
        obtain ⟨nn, hnn⟩ := hgm.at (R j).g
        have hnl : nn ≤ 65536 := by
          have := hnn.1
          have := rightsOf_le R j (R j).g
          omega
        have hW1 : ∀ b, b < wr.heap.size → (wr.drew.alloc (.cells (rightCells (R j)).toArray 57)).heap[b]? = wr.heap[b]? := fun b hb => Below.heap_alloc wr.drew _ _ hb
        have HOwn : Hid ((wr.drew.alloc (.cells (rightCells (R j)).toArray 57)).ownsRow q 57 3 (valAt keys vs (R j).g) nn (rightsOf R j (R j).g)) := ownsRow_kept hnn (fun g hg => hW1 g (hgm.rowLt hg).1)
        have HSt : Hid (∀ (v2 : Value) (w2 : World), w2.ownsRow q 57 3 v2 (nn + 1) (rightsOf R j (R j).g ++ rightCells (R j)) → (wr.drew.alloc (.cells (rightCells (R j)).toArray 57)).grownBy w2 (valAt keys vs (R j).g).ownBlock → (v2.ownBlock = (valAt keys vs (R j).g).ownBlock ∨ v2.ownBlock = some (wr.drew.alloc (.cells (rightCells (R j)).toArray 57)).heap.size) →
            ∃ w3, (Instr.mapUpdate 54 (.map (some q)) (.string (R j).g) v2).run Try.prog w2 = .ok () w3 ∧ GM w3 q q 57 3 (addK keys (R j).g) (rightsOf R (j + 1)) (updV vs (R j).g v2) ∧ Below q w w2 ∧ Below q w w3) := by
          intro v2 w2 a1 a2 a3
          obtain ⟨w3, u1, u2, u3, u4⟩ := hgm.store (T := 54) (E := 55) (k := (R j).g) hW1 (by simp) a2 a1 a3 Try.underlying54 hz
          rw [← rightsOf_succ] at u2
          have hlt := hgm.map.lt
          have hbw : Below q w (wr.drew.alloc (.cells (rightCells (R j)).toArray 57)) := hbel.drew.alloc (by simp; omega) _
          refine ⟨w3, u1, u2, ?_, hgm.storeBelow hbw (by simp; omega) (Nat.le_refl _) (Nat.le_refl _) a2 u4⟩
          exact hbw.grown a2 (by simp; omega) (fun g hg => own_ge hnn hg)
        have HBs : Hid (q ≤ (wr.drew.alloc (.cells (rightCells (R j)).toArray 57)).heap.size) := by
          show q ≤ _
          have := hgm.map.lt
          simp; omega
        clear e3 e4 e5 e6 hgm hbel hW1 hnn
        go_wp2
        go_region_held3 (fun w' => w'.cell? ⟨b4, o4 + j, none⟩ = some (.string (R j).p) ∧ w'.cell? ⟨b5, o5 + j, none⟩ = some (.string (R j).o) ∧ w'.cell? ⟨b6, o6 + j, none⟩ = some (.bool (R j).t) ∧ Below q w w')
          (first | exact HS0.out | exact HS1.out _ | exact HBq.out _ hB2 | exact HBq.out _ hB3 | assumption)
          (first | (refine step_append_own (by rfl) (.tmp 51) (.tmp 65) 55 (by rfl) q 57 _ 3 40 Try.underlying55 info57 (by rfl) (by decide) (by decide) (valAt keys vs (R j).g) nn (rightsOf R j (R j).g) (by rfl) HOwn.out ⟨wr.heap.size, 0, none⟩ (rightCells (R j)) (by rfl) (by rfl) (oneCell_new (w := wr.drew)) (fun u hu => by simp [rightCells] at hu; rcases hu with rfl | rfl | rfl <;> rfl) (by omega) HBs.out ?_; intro v2 w2 hown2 hgrow2 hloc2; obtain ⟨w3, hu3, hgm3, hB2, hB3⟩ := HSt.out v2 w2 hown2 hgrow2 hloc2))
        all_goals
          have HG3 : Hid (GM w3 q q 57 3 (addK keys (R j).g) (rightsOf R (j + 1)) (updV vs (R j).g v2)) := hgm3
          have HB3 : Hid (Below q w w3) := hB3
          clear hgm3 hB3 hB2 hu3 hown2 hgrow2 hloc2 HSt HOwn HBq HS0 HS1 hl1 hl2 c3 HBs HG HB
          go_wp2
          go_roundw
          case rel =>
            refine ⟨j + 1, by omega, by go_num, _, _, HG3.out, fun x => ?_, HB3.out⟩
            rw [mem_addK, HK.out x]
            constructor
            · rintro ((h | ⟨i, h1, h2⟩) | rfl)
              · exact Or.inl h
              · exact Or.inr ⟨i, by omega, h2⟩
              · exact Or.inr ⟨j, by omega, rfl⟩
            · rintro (h | ⟨i, h1, h2⟩)
              · exact Or.inl (Or.inl h)
              · by_cases e : i = j
                · subst e; exact Or.inr h2.symm
                · exact Or.inl (Or.inr ⟨i, by omega, h2⟩)
          case measure => simp [intOf]; omega
      obtain rfl : j = n := by omega
      obtain ⟨Z, hZ, hmk⟩ := make58 n8 (by omega) wr
      have hlt0 := hgm.map.lt
      clear hgm hbel
      have HI := fun (v' : Value) (w4 : World) => OB.init (w := w) (s1 := s1) (s2 := s2) (S := S) (v' := v') (w4 := w4) HG.out HB.out (by omega) hZ
      have HI' : Hid _ := HI
      have HO0 : Hid (((((wr.alloc (.cells Z 59)).alloc (.cells #[.int .i64 0, .string s1, .string s2, .map (some q)] 62)).alloc (.cells #[Ptr (wr.heap.size + 1)] 59))).ownsRow q 59 1 (.slice (some ⟨wr.heap.size, 0, none⟩) 0 (n8 + 1)) 0 []) := by
        refine ⟨by simp, Or.inr ⟨wr.heap.size, n8 + 1, Z, rfl, by omega, ?_, by omega, by unfold maxLen; omega, by omega, by simp⟩⟩
        rw [Below.heap_alloc _ _ _ (by simp; omega), Below.heap_alloc _ _ _ (by simp)]
        exact heap_alloc_new _ _
      have HN0 : Hid (∀ (j : Nat) (u : Value), [Ptr (wr.heap.size + 1)][j]? = some u → (((wr.alloc (.cells Z 59)).alloc (.cells #[.int .i64 0, .string s1, .string s2, .map (some q)] 62)).alloc (.cells #[Ptr (wr.heap.size + 1)] 59)).cell? ((⟨wr.heap.size + 2, 0, none⟩ : Addr).add j) = some u) := by
        intro j u hj
        have := oneCell_new (w := (wr.alloc (.cells Z 59)).alloc (.cells #[.int .i64 0, .string s1, .string s2, .map (some q)] 62)) (cs := [Ptr (wr.heap.size + 1)]) (t := 59) j u hj
        rw [World.size_alloc, World.size_alloc] at this
        exact this
      have HQ0 : Hid (q ≤ (((wr.alloc (.cells Z 59)).alloc (.cells #[.int .i64 0, .string s1, .string s2, .map (some q)] 62)).alloc (.cells #[Ptr (wr.heap.size + 1)] 59)).heap.size) := by
        show q ≤ _
        simp; omega
      clear HI hZ
      go_wp2_with (first | (at_builtin; refine wpList_append_own1 (by rfl) (.tmp 71) (.tmp 77) 58 (by rfl) q 59 _ 1 8 Try.underlying58 info59 (by rfl) (by decide) (by decide) _ 0 [] (by rfl) HO0.out ⟨wr.heap.size + 2, 0, none⟩ [Ptr (wr.heap.size + 1)] (by rfl) (by rfl) HN0.out (fun u hu => by simp at hu; subst hu; rfl) (by omega) HQ0.out ?_; intro v4 w4 hown4 hgrow4 hloc4) | go_in)
      have HOB : Hid (OB w w4 q 0 j (fun _ => wr.heap.size + 1) v4 s1 s2 S R keys vs) := HI'.out v4 w4 hown4 hgrow4
      clear hown4 hgrow4 hloc4 HI' HO0 HN0 HQ0 hmk HG HB
      go_loopw [23, 24] (fun x t wr => ∃ (m : Nat) (O : Nat → Nat) (v : Value), m ≤ n8 ∧ t = .int .i64 m ∧ x = v ∧ OB w wr q m j O v s1 s2 S R keys vs) (fun _ t _ => n8 - (intOf t).toNat)
      case atStart => exact ⟨0, _, _, Nat.zero_le _, rfl, rfl, HOB.out⟩
      case round =>
        obtain ⟨m, O, v, hm, rfl, hx, hob⟩ := hrel
        have hx' := hx.symm
        clear hx
        subst hx'
        have HOb : Hid (OB w wr q m j O v s1 s2 S R keys vs) := hob
        clear HOB
        have hqw : q < wr.heap.size := hob.gm.map.lt
        by_cases hlt : m < n8
        · obtain ⟨b8, o8, rfl, e8⟩ := H8.out (by omega)
          have c8 : wr.cell? ⟨b8, o8 + m, none⟩ = some (.string (S m)) := cell_later (by rw [hq]; exact hob.bel) (e8 m hlt)
          have hmI : (m : Int) < n8 := by omega
          have HO0 : Hid (((wr.alloc (.cells #[.int .i64 2, .string (S m), .string s2, .map none] 62)).alloc (.cells #[Ptr wr.heap.size] 59)).ownsRow q 59 1 v (m + 1) ((List.range (m + 1)).map fun i => Ptr (O i))) :=
            ownsRow_kept hob.own (fun g hg => by
              obtain ⟨cur, hc⟩ := ownsRow_block hob.own hg
              rw [Below.heap_alloc _ _ _ (by have := lt_of_heap hc; rw [World.size_alloc]; omega), Below.heap_alloc _ _ _ (lt_of_heap hc)])
          have HN0 : Hid (∀ (j : Nat) (u : Value), [Ptr wr.heap.size][j]? = some u → ((wr.alloc (.cells #[.int .i64 2, .string (S m), .string s2, .map none] 62)).alloc (.cells #[Ptr wr.heap.size] 59)).cell? ((⟨wr.heap.size + 1, 0, none⟩ : Addr).add j) = some u) := by
            intro j u hj
            have := oneCell_new (w := wr.alloc (.cells #[.int .i64 2, .string (S m), .string s2, .map none] 62)) (cs := [Ptr wr.heap.size]) (t := 59) j u hj
            rw [World.size_alloc] at this
            exact this
          have HQ0 : Hid (q ≤ ((wr.alloc (.cells #[.int .i64 2, .string (S m), .string s2, .map none] 62)).alloc (.cells #[Ptr wr.heap.size] 59)).heap.size) := by
            show q ≤ _
            simp; omega
          clear e8 hob
          go_wp2_with (first | (at_builtin; refine wpList_append_own1 (by rfl) (.tmp 85) (.tmp 93) 58 (by rfl) q 59 _ 1 8 Try.underlying58 info59 (by rfl) (by decide) (by decide) v (m + 1) _ (by rfl) HO0.out ⟨wr.heap.size + 1, 0, none⟩ [Ptr wr.heap.size] (by rfl) (by rfl) HN0.out (fun u hu => by simp at hu; subst hu; rfl) (by omega) HQ0.out ?_; intro v4 w4 hown4 hgrow4 hloc4) | go_in)
          have HOB : Hid (OB w w4 q (m + 1) j (updN O (m + 1) wr.heap.size) v4 s1 s2 S R keys vs) := HOb.out.step (Nat.le_of_lt hqw) hown4 hgrow4
          clear hown4 hgrow4 hloc4 HO0 HN0 HQ0
          go_roundw
          case rel => exact ⟨m + 1, _, _, by omega, by go_num, rfl, HOB.out⟩
          case measure => simp [intOf]; omega
        · obtain rfl : m = n8 := by omega
          rcases hob.own.2 with ⟨-, h0⟩ | ⟨so, cap, cur, rfl, p1, p2, p3, p4, p5, p6⟩
          · omega
          have P2 : Hid _ := p2
          have P6 : Hid _ := p6
          clear hob p2 p3 p4 p5 p6
          go_wp2
          go_ret
          have hob := HOb.out
          have p2 := P2.out
          have p6 := P6.out
          have hold : ∀ (o : Obj) {b : Nat} {x : Obj}, wr.heap[b]? = some x → (wr.alloc o).heap[b]? = some x := fun o b x hx => by rw [Below.heap_alloc _ _ _ (lt_of_heap hx)]; exact hx
          refine ⟨wr.heap.size, so, cap, O, q, keys, vs, rfl, ⟨heap_alloc_new _ _, ⟨cur, hold _ p2, fun i hi => ?_⟩, hold _ hob.o0, fun i hi => hold _ (hob.os i hi), ?_⟩, HK.out, by rw [hq]; exact p1, ?_⟩
          · have e : (cur.toList.take ((m + 1) * 1))[i]? = some (Ptr (O i)) := by
              rw [p6, List.getElem?_map, List.getElem?_range (by omega)]
              rfl
            rw [List.getElem?_take] at e
            split at e
            · simpa using e
            · cases e
          · rw [hq]
            exact hob.gm.kept (fun b hb _ => Below.heap_alloc _ _ _ hb)
          · rw [hq]
            exact hob.bel.alloc (Nat.le_of_lt hqw) _
end Go.Proofs.Qxb6602344a
