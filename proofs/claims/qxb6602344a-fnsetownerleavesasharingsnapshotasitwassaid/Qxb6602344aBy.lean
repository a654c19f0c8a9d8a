import Derived.Test.Qxb6602344aObject
namespace Go.Proofs.Qxb6602344a
open Go.ChangeShapes Go.WideShapes Go.ChangeAt Go.RowKit
open Classical
set_option linter.unusedVariables false
set_option linter.unusedSimpArgs false

theorem own_form {w : World} {base : Nat} {e : TypeId} {size : Nat} {v : Value} {n : Nat} {xs : List Value} (h : w.ownsRow base e size v n xs) : ∃ a c, v = .slice a n c := by
  rcases h.2 with ⟨rfl, rfl⟩ | ⟨g, cap, cur, rfl, _⟩
  · exact ⟨none, 0, rfl⟩
  · exact ⟨_, cap, rfl⟩

section
variable {W : World} {hm base : Nat} {e : TypeId} {size : Nat} {keys : List ByteArray} {G : ByteArray → List Value} {vs : ByteArray → Value}
/-- 'm[k] = append(m[k], x)', all that the walk asks. -/
theorem GM.append1 (h : GM W hm base e size keys G vs) (hbase : base ≤ W.heap.size) {T E : TypeId} (ht : Try.prog.underlying T = some (.map 9 E)) (hz : (zeroValue E).run Try.prog W = .ok (.slice none 0 0) W) {k : ByteArray} (hk : k.size ≤ maxLen) (new : List Value) :
    ∃ n, (G k).length = n * size ∧ (∃ a c, valAt keys vs k = .slice a n c) ∧ (Instr.lookup T (.map (some hm)) (.string k) false).run Try.prog W = .ok (valAt keys vs k) W ∧ (W.alloc (.cells new.toArray e)).ownsRow base e size (valAt keys vs k) n (G k) ∧ base ≤ (W.alloc (.cells new.toArray e)).heap.size ∧
      ∀ (v2 : Value) (w2 : World), w2.ownsRow base e size v2 (n + 1) (G k ++ new) → (W.alloc (.cells new.toArray e)).grownBy w2 (valAt keys vs k).ownBlock → (v2.ownBlock = (valAt keys vs k).ownBlock ∨ v2.ownBlock = some (W.alloc (.cells new.toArray e)).heap.size) →
        ∃ w3, (Instr.mapUpdate T (.map (some hm)) (.string k) v2).run Try.prog w2 = .ok () w3 ∧ GM w3 hm base e size (addK keys k) (updV G k (G k ++ new)) (updV vs k v2) ∧ (∀ (B : Nat) (w0 : World), Below B w0 W → B ≤ W.heap.size → B ≤ hm → B ≤ base → Below B w0 w3) ∧
          (∀ b o, W.heap[b]? = some o → b ≠ hm → (∀ cur, o ≠ .cells cur e (0, 0)) → w3.heap[b]? = some o) ∧ W.heap.size ≤ w3.heap.size := by
  obtain ⟨n, hn⟩ := h.at k
  have hW1 : ∀ b, b < W.heap.size → (W.alloc (.cells new.toArray e)).heap[b]? = W.heap[b]? := fun b hb => Below.heap_alloc W _ _ hb
  refine ⟨n, hn.1, own_form hn, (h.map.look ht hz hk).1, ownsRow_kept hn (fun g hg => hW1 g (h.rowLt hg).1), by rw [World.size_alloc]; omega, fun v2 w2 a1 a2 a3 => ?_⟩
  obtain ⟨w3, u1, u2, u3, u4⟩ := h.store (T := T) (E := E) (k := k) hW1 (by simp) a2 a1 a3 ht hk
  refine ⟨w3, u1, u2, fun B w0 hb hs hbm hbb => ?_, fun b o hb hne hnt => ?_, ?_⟩
  · exact h.storeBelow (hb.alloc hs _) (by rw [World.size_alloc]; omega) hbm hbb a2 u4
  · have hlt := lt_of_heap hb
    rw [u3 b hne, a2.block b (by rw [World.size_alloc]; omega) (fun e => ?_), hW1 b hlt, hb]
    obtain ⟨cur, hc⟩ := ownsRow_block hn e.symm
    rw [hb] at hc
    exact hnt cur (Option.some.inj hc)
  · have := a2.size
    have := u4.size
    rw [World.size_alloc] at *
    omega
end

/-- The grantees, in the order of their first grant. -/
noncomputable def keysOf (R : Nat → Gr) : Nat → List ByteArray
  | 0 => []
  | n + 1 => addK (keysOf R n) (R n).g
theorem mem_keysOf (R : Nat → Gr) : ∀ (n : Nat) (x : ByteArray), x ∈ keysOf R n ↔ ∃ i, i < n ∧ (R i).g = x
  | 0, x => by simp [keysOf]
  | n + 1, x => by
    rw [keysOf, mem_addK, mem_keysOf R n x]
    constructor
    · rintro (⟨i, h1, h2⟩ | rfl)
      · exact ⟨i, by omega, h2⟩
      · exact ⟨n, by omega, rfl⟩
    · rintro ⟨i, h1, h2⟩
      by_cases e : i = n
      · subst e; exact Or.inr h2.symm
      · exact Or.inl ⟨i, by omega, h2⟩
theorem keysOf_len (R : Nat → Gr) : ∀ n, (keysOf R n).length ≤ n
  | 0 => by simp [keysOf]
  | n + 1 => by
    have := keysOf_len R n
    rw [keysOf]; unfold addK; split
    · omega
    · simp; omega
/-- The places of k's grants. -/
noncomputable def idxL (R : Nat → Gr) (n : Nat) (k : ByteArray) : List Nat := (List.range n).filter fun i => (R i).g = k
noncomputable def idxOf (R : Nat → Gr) (n : Nat) (k : ByteArray) : List Value := (idxL R n k).map fun i : Nat => .int .i64 i
theorem idxOf_succ (R : Nat → Gr) (n : Nat) : idxOf R (n + 1) = updV (idxOf R n) (R n).g (idxOf R n (R n).g ++ [.int .i64 n]) := by
  funext k
  unfold idxOf idxL updV
  rw [List.range_succ, List.filter_append, List.map_append]
  by_cases h : k = (R n).g
  · subst h; simp
  · rw [if_neg h]
    have : ¬ (R n).g = k := fun e => h e.symm
    simp [this]
theorem idxOf_len (R : Nat → Gr) (n : Nat) (k : ByteArray) : (idxOf R n k).length ≤ n := by
  unfold idxOf idxL
  rw [List.length_map]
  exact Nat.le_trans (List.length_filter_le _ _) (by simp)
theorem idxOf_nil (R : Nat → Gr) (n : Nat) (k : ByteArray) : (idxOf R n k).length = 0 ↔ k ∉ keysOf R n := by
  rw [mem_keysOf]
  unfold idxOf idxL
  rw [List.length_map, List.length_eq_zero_iff, List.filter_eq_nil_iff]
  simp
theorem info3 : (Try.prog.info? 3).map (fun i => (i.zero, i.size, i.bytes)) = some (some (.int .i64 0), 1, 8) := by kernel_rfl
theorem zero46 (w : World) : (zeroValue 46).run Try.prog w = .ok (.slice none 0 0) w := by kernel_rfl

/-- While the grants are grouped. -/
structure BY (w wr : World) (q j : Nat) (R : Nat → Gr) (vs : ByteArray → Value) (ov : Value) : Prop where
  gm : GM wr q q 3 1 (keysOf R j) (idxOf R j) vs
  own : wr.ownsRow q 9 1 ov (keysOf R j).length ((keysOf R j).map Value.string)
  bel : Below q w wr

set_option maxRecDepth 20000 in
set_option maxHeartbeats 4000000 in
theorem by_any (w : World) (a : Option Addr) (n c : Nat) (R : Nat → Gr) (hn : n ≤ 65536) (ha : GrV w a n R) (zR : ∀ i, i < n → (R i).g.size ≤ maxLen) :
    Calls Try.prog 18 #[.slice a n c] w fun e w' => ∃ hm vs ov, e = .returned (.tuple #[.map (some hm), ov]) ∧ GM w' hm w.heap.size 3 1 (keysOf R n) (idxOf R n) vs ∧ w'.ownsRow w.heap.size 9 1 ov (keysOf R n).length ((keysOf R n).map Value.string) ∧ w.heap.size ≤ hm ∧ Below w.heap.size w w' := by
  have HA : Hid _ := ha
  have ZR : Hid _ := zR
  have H0 : Hid (BY w (w.alloc (.map #[] 0)) w.heap.size 0 R (fun _ => .slice none 0 0) (.slice none 0 0)) := ⟨GM.made w w.heap.size 3 1, World.ownsRow_nil _ _ _ _, (Below.refl _ _).alloc (Nat.le_refl _) _⟩
  have hmm := @run_makeMap Try.prog
  clear ha zR
  go_enter Try.func18, Try.ntmps18
  go_wp2
  clear hmm
  generalize hq : w.heap.size = q at *
  go_loopw [5, 6] (fun x t wr => ∃ (j : Nat) (vs : ByteArray → Value) (ov : Value), j ≤ n ∧ t = .int .i64 j ∧ x = ov ∧ BY w wr q j R vs ov) (fun _ t _ => n - (intOf t).toNat)
  case atStart => exact ⟨0, _, _, Nat.zero_le _, rfl, rfl, H0.out⟩
  case round =>
    obtain ⟨j, vs, ov, hj, rfl, hx, hby⟩ := hrel
    have hx' := hx.symm
    clear hx
    subst hx'
    have HBY : Hid (BY w wr q j R vs ov) := hby
    clear H0
    have hqw : q < wr.heap.size := hby.gm.map.lt
    by_cases hlt : j < n
    · obtain ⟨b, off, rfl, e1⟩ := HA.out (by omega)
      have c0 : wr.cell? ⟨b, off + j * 4, none⟩ = some (.string (R j).g) := cell_later (by rw [hq]; exact hby.bel) (e1 j hlt).1
      have hjI : (j : Int) < n := by omega
      have hz := ZR.out j hlt
      obtain ⟨m, hml, ⟨ma, mc, hmv⟩, hlk, HOwn0, hbs0, hst0⟩ := hby.gm.append1 (Nat.le_of_lt hqw) (T := 39) (E := 46) Try.underlying39 (zero46 _) hz [.int .i64 j]
      clear e1
      by_cases hin : (R j).g ∈ keysOf R j
      · have hm0 : ¬ m = 0 := fun e => by
          have := (idxOf_nil R j (R j).g).1 (by rw [hml, e])
          exact this hin
        have hm0I : ¬ (m : Int) = 0 := by omega
        have hmb : ((m : Int) == 0) = false := by simpa using hm0
        have hkeys : keysOf R (j + 1) = keysOf R j := by rw [keysOf]; exact if_pos hin
        have hml2 : m ≤ 65536 := by have := idxOf_len R j (R j).g; omega
        rw [hmv] at hlk HOwn0 hst0
        have HOwn : Hid _ := HOwn0
        have HBs : Hid _ := hbs0
        have HSt : Hid _ := hst0
        clear HOwn0 hbs0 hst0 hby hin hml hmv hm0
        go_wp2_with (first | (at_builtin; refine wpList_append_own1 (by rfl) (.tmp 33) (.tmp 35) 46 (by rfl) q 3 _ 1 8 Try.underlying46 info3 (by rfl) (by decide) (by decide) (.slice ma m mc) m _ (by rfl) HOwn.out ⟨wr.heap.size, 0, none⟩ [.int .i64 j] (by rfl) (by rfl) oneCell_new (fun u hu => by simp at hu; subst hu; rfl) (by omega) HBs.out ?_; intro v2 w2 ho hg hl; obtain ⟨w3, hu3, hgm3, hbl3, hfr3, hsz3⟩ := HSt.out v2 w2 ho hg hl; have HG3 : Hid _ := hgm3; have HF3 : Hid _ := hfr3; have HB3 : Hid _ := hbl3; clear hgm3 hfr3 hbl3 ho hg hl) | go_in)
        go_roundw
        case rel =>
          refine ⟨j + 1, updV vs (R j).g v2, ov, by omega, by go_num, rfl, ?_, ?_, ?_⟩
          · rw [idxOf_succ]; exact HG3.out
          · rw [hkeys]
            refine ownsRow_kept HBY.out.own (fun g hg => ?_)
            obtain ⟨cur, hc⟩ := ownsRow_block HBY.out.own hg
            rw [hc]
            refine HF3.out g _ hc ?_ (fun cur' e => by cases e)
            rintro rfl
            obtain ⟨es, ck, h1, _⟩ := HBY.out.gm.map.ex
            rw [hc] at h1
            cases h1
          · exact HB3.out q w HBY.out.bel (Nat.le_of_lt hqw) (Nat.le_refl _) (Nat.le_refl _)
        case measure => simp [intOf]; omega
      · have hm0 : m = 0 := by
          have := (idxOf_nil R j (R j).g).2 hin
          omega
        subst hm0
        have hv0 : valAt (keysOf R j) vs (R j).g = .slice none 0 0 := if_neg hin
        have hkeys : keysOf R (j + 1) = keysOf R j ++ [(R j).g] := by rw [keysOf]; exact if_neg hin
        rw [hv0] at hlk
        have hkl := keysOf_len R j
        have HOwnO : Hid ((wr.alloc (.cells #[.string (R j).g] 9)).ownsRow q 9 1 ov (keysOf R j).length ((keysOf R j).map Value.string)) := ownsRow_kept hby.own (fun g hg => by
          obtain ⟨cur, hc⟩ := ownsRow_block hby.own hg
          exact Below.heap_alloc _ _ _ (lt_of_heap hc))
        have HBo : Hid (q ≤ (wr.alloc (.cells #[.string (R j).g] 9)).heap.size) := by
          show q ≤ _
          rw [World.size_alloc]; omega
        have HNx : Hid (∀ (v8 : Value) (w8 : World), (wr.alloc (.cells #[.string (R j).g] 9)).grownBy w8 ov.ownBlock → GM w8 q q 3 1 (keysOf R j) (idxOf R j) vs ∧ Below q w w8 ∧ q < w8.heap.size) := by
          intro v8 w8 hg8
          have hold : ∀ {b : Nat} {o : Obj}, wr.heap[b]? = some o → (∀ cur, o ≠ .cells cur 9 (0, 0)) → w8.heap[b]? = some o := fun {b o} hb hne => by
            have hl := lt_of_heap hb
            rw [hg8.block b (by rw [World.size_alloc]; omega) (fun e => ?_), Below.heap_alloc _ _ _ hl, hb]
            obtain ⟨cur, hc⟩ := ownsRow_block hby.own e.symm
            rw [hb] at hc
            exact hne cur (Option.some.inj hc)
          have hs8 := hg8.size
          rw [World.size_alloc] at hs8
          refine ⟨hby.gm.kept (fun b hb hc => ?_), ?_, by omega⟩
          · rcases hc with rfl | ⟨cur, hc⟩
            · obtain ⟨es, ck, h1, _⟩ := hby.gm.map.ex
              rw [h1]; exact hold h1 (fun c e => by cases e)
            · rw [hc]; exact hold hc (fun c e => by cases e)
          · exact (hby.bel.alloc (Nat.le_of_lt hqw) _).grown hg8 (by rw [World.size_alloc]; omega) (fun g hg => own_ge hby.own hg)
        clear HOwn0 hbs0 hst0 hby hin hml hmv
        go_wp2_with (first | (at_builtin; refine wpList_append_own1 (by rfl) (.tmp 25) (.tmp 27) 23 (by rfl) q 9 _ 1 16 Try.underlying23 info9 (by rfl) (by decide) (by decide) ov (keysOf R j).length _ (by rfl) HOwnO.out ⟨wr.heap.size, 0, none⟩ [.string (R j).g] (by rfl) (by rfl) oneCell_new (fun u hu => by simp at hu; subst hu; rfl) (by omega) HBo.out ?_; intro v8 w8 ho8 hg8 hl8; obtain ⟨hgm8, hb8, hq8⟩ := HNx.out v8 w8 hg8; have HO8 : Hid _ := ho8; have HG8 : Hid _ := hgm8; have HB8 : Hid (Below q w w8) := hb8; obtain ⟨m8, hml8, -, hlk8, HOwn8, hbs8, hst8⟩ := hgm8.append1 (Nat.le_of_lt hq8) (T := 39) (E := 46) Try.underlying39 (zero46 _) hz [.int .i64 j]; rw [hv0] at hlk8 HOwn8 hst8; have HOw8 : Hid _ := HOwn8; have HBs8 : Hid _ := hbs8; have HSt8 : Hid _ := hst8; have hm8 : m8 = 0 := (by rcases HOwn8.2 with ⟨_, h⟩ | ⟨g, cap, cur, h, _⟩; exact h; cases h); clear ho8 hg8 hl8 hgm8 hb8 HOwn8 hbs8 hst8) 
                           | (at_builtin; refine wpList_append_own1 (by rfl) (.tmp 33) (.tmp 35) 46 (by rfl) q 3 _ 1 8 Try.underlying46 info3 (by rfl) (by decide) (by decide) (.slice none 0 0) m8 _ (by rfl) HOw8.out ⟨w8.heap.size, 0, none⟩ [.int .i64 j] (by rfl) (by rfl) oneCell_new (fun u hu => by simp at hu; subst hu; rfl) (by omega) HBs8.out ?_; intro v2 w2 ho hg hl; obtain ⟨w3, hu3, hgm3, hbl3, hfr3, hsz3⟩ := HSt8.out v2 w2 ho hg hl; have HG3 : Hid _ := hgm3; have HF3 : Hid _ := hfr3; have HB3 : Hid _ := hbl3; clear hgm3 hfr3 hbl3 ho hg hl) | go_in)
        go_roundw
        case rel =>
          refine ⟨j + 1, updV vs (R j).g v2, v8, by omega, by go_num, rfl, ?_, ?_, ?_⟩
          · rw [idxOf_succ]; exact HG3.out
          · rw [hkeys]
            have h8 : w8.ownsRow q 9 1 v8 (keysOf R j ++ [(R j).g]).length ((keysOf R j ++ [(R j).g]).map Value.string) := by
              have := HO8.out
              rw [List.length_append, List.map_append]
              exact this
            refine ownsRow_kept h8 (fun g hg => ?_)
            obtain ⟨cur, hc⟩ := ownsRow_block h8 hg
            rw [hc]
            refine HF3.out g _ hc ?_ (fun cur' e => by cases e)
            rintro rfl
            obtain ⟨es, ck, h1, _⟩ := (HG8.out).map.ex
            rw [hc] at h1
            cases h1
          · exact HB3.out q w HB8.out (Nat.le_of_lt hq8) (Nat.le_refl _) (Nat.le_refl _)
        case measure => simp [intOf]; omega
    · obtain rfl : j = n := by omega
      clear hby
      go_wp2
      go_ret2
      have h := HBY.out
      subst hq
      exact ⟨_, _, _, rfl, h.gm, h.own, Nat.le_refl _, h.bel⟩
end Go.Proofs.Qxb6602344a
