import Derived.Test.Qxb6612554aKeyOf
import Derived.DeepKeys4
import Derived.WideKeyElems
namespace Go.Proofs.Qxb6612554a
open Go.ChangeShapes Go.WideShapes Go.ChangeAt Go.RowKit
set_option linter.unusedVariables false

/-- The key as a value. -/
abbrev kv (i : Nat) : Value := .agg (kl i).toArray
theorem laidOutTry : laidOutB Try.prog = true := by kernel_rfl
theorem law49 : WideMaps.KeyLaw Try.prog 49 := deep_law_laid laidOutTry (m := 3) (by omega) (of_decide_eq_true (by kernel_rfl)) (by kernel_rfl) (by rw [Try.underlying49])

theorem mapM_some {α β : Type} {f : α → Option β} : ∀ {l : List α}, (∀ x ∈ l, ∃ y, f x = some y) → ∃ ys, l.mapM f = some ys
  | [], _ => ⟨[], rfl⟩
  | x :: l, h => by
    obtain ⟨y, hy⟩ := h x (by simp)
    obtain ⟨ys, hys⟩ := mapM_some (l := l) (fun z hz => h z (by simp [hz]))
    exact ⟨y :: ys, by simp [List.mapM_cons, hy, hys]⟩

theorem kl_get (i j : Nat) (hj : j < 32) : ∃ b : Int, (kl i)[j]? = some (.int .u8 b) ∧ 0 ≤ b ∧ b < 256 := by
  unfold kl
  rw [List.getElem?_set]
  by_cases e : 31 = j
  · subst e
    exact ⟨165, by simp [kr_length], by omega, by omega⟩
  · simp only [e, if_false]
    rw [kr_get _ _ _ hj]
    refine ⟨_, rfl, ?_, ?_⟩
    · split
      · unfold kb; omega
      · omega
    · split
      · unfold kb; omega
      · omega

theorem cells5 : Try.prog.cellsOf 5 = 1 := by kernel_rfl
theorem cells49 : Try.prog.cellsOf 49 = 32 := by kernel_rfl
theorem keyType49 : Try.prog.keyType 49 = true := by kernel_rfl
theorem ntypes : Try.prog.types.size = 166 := by kernel_rfl

theorem lits_byte (d : Nat) (b : Int) (h0 : 0 ≤ b) (h1 : b < 256) : Try.prog.keyLits (d + 1) 5 [.int .u8 b] = some [.int .u8 b] := by
  have hw : (Lit.int .u8 b).wf = true := by simp [Lit.wf, IntKind.min, IntKind.max, IntKind.signed, IntKind.bits]; omega
  simp [Program.keyLits, Try.underlying5, hw]

theorem lits_arr (d : Nat) (cs : List Value) (hl : cs.length = Try.prog.cellsOf 49) {ys : List (List Lit)} (h : (List.range 32).mapM (fun j => Try.prog.keyLits d 5 ((cs.drop (j * Try.prog.cellsOf 5)).take (Try.prog.cellsOf 5))) = some ys) :
    Try.prog.keyLits (d + 1) 49 cs = some ys.flatten := by
  unfold Program.keyLits
  split
  all_goals first
    | (rename_i h1; rw [Try.underlying49] at h1; cases h1; done)
    | skip
  · rename_i n e h1
    rw [Try.underlying49] at h1
    cases h1
    rw [if_pos hl, h]
    rfl
  · rename_i h2 _ _ _ _
    exact absurd Try.underlying49 (fun e => h2 _ _ e)

/-- It reads as a key. -/
theorem key_ok (i : Nat) : ∃ l, keyOf Try.prog 49 (kv i) = some l := by
  unfold keyOf
  rw [Try.underlying49]
  have hf : (kv i).formed Try.prog 49 = true := by simp [Value.formed, Try.underlying49, cells49, kl_length]
  simp only [keyType49, hf, Bool.and_self, if_true]
  have hm : ∃ ys, (List.range 32).mapM (fun j => Try.prog.keyLits 166 5 (((kl i).drop (j * Try.prog.cellsOf 5)).take (Try.prog.cellsOf 5))) = some ys := by
    refine mapM_some (fun j hj => ?_)
    have hj' : j < 32 := by simpa using hj
    obtain ⟨b, hb, h0, h1⟩ := kl_get i j hj'
    refine ⟨[.int .u8 b], ?_⟩
    have e : ((kl i).drop (j * Try.prog.cellsOf 5)).take (Try.prog.cellsOf 5) = [.int .u8 b] := by
      rw [cells5, Nat.mul_one]
      have hl : j < (kl i).length := by rw [kl_length]; omega
      have hg : (kl i)[j] = .int .u8 b := by
        have := List.getElem?_eq_getElem hl
        rw [this] at hb
        exact Option.some.inj hb
      rw [List.drop_eq_getElem_cons hl, hg]
      rfl
    rw [e]
    exact lits_byte 165 b h0 h1
  obtain ⟨ys, hys⟩ := hm
  have hk : Try.prog.keyLits (Try.prog.types.size + 1) 49 (kv i).cells.toList = some ys.flatten := by
    rw [ntypes]
    show Try.prog.keyLits (166 + 1) 49 (kl i) = _
    exact lits_arr 166 (kl i) (by rw [kl_length, cells49]) hys
  rw [hk]
  exact ⟨_, rfl⟩

theorem kv_inj {i j : Nat} (hi : i < 1000000) (hj : j < 1000000) (h : kv i = kv j) : i = j := by
  have hl : kl i = kl j := by simpa using h
  have g : ∀ k, k < 8 → kb i k = kb j k := by
    intro k hk
    have h1 : (kl i)[k]? = some (.int .u8 (kb i k)) := by
      unfold kl
      rw [List.getElem?_set, if_neg (by omega), kr_get _ _ _ (by omega), if_pos hk]
    have h2 : (kl j)[k]? = some (.int .u8 (kb j k)) := by
      unfold kl
      rw [List.getElem?_set, if_neg (by omega), kr_get _ _ _ (by omega), if_pos hk]
    rw [hl, h2] at h1
    simpa using h1.symm
  have g0 := g 0 (by omega)
  have g1 := g 1 (by omega)
  have g2 := g 2 (by omega)
  simp only [kb, Nat.mul_zero, Int.pow_zero, Int.ediv_one, Nat.mul_one] at g0 g1 g2
  have e1 : (2 : Int) ^ 8 = 256 := by decide
  have e2 : (2 : Int) ^ (8 * 2) = 65536 := by decide
  rw [e1] at g1
  rw [e2] at g2
  omega

/-! ### The map -/
/-- The entries at the keys 'ks': key i leads to element i's block. -/
def Ents (E : Nat → Nat) (es : Array MapEntry) (ks : List Nat) : Prop := es.toList.map (fun e => (e.key, e.val)) = ks.map fun i => (kv i, Ptr (E i))

theorem Ents.keys {E : Nat → Nat} {es : Array MapEntry} {ks : List Nat} (h : Ents E es ks) {e : MapEntry} (he : e ∈ es.toList) : ∃ i ∈ ks, e.key = kv i ∧ e.val = Ptr (E i) := by
  have : (e.key, e.val) ∈ es.toList.map (fun e => (e.key, e.val)) := List.mem_map.2 ⟨e, he, rfl⟩
  rw [h] at this
  obtain ⟨i, hi, e1⟩ := List.mem_map.1 this
  simp only [Prod.mk.injEq] at e1
  exact ⟨i, hi, e1.1.symm, e1.2.symm⟩
theorem Ents.at {E : Nat → Nat} {es : Array MapEntry} {ks : List Nat} (h : Ents E es ks) {j : Nat} {e : MapEntry} (he : es.toList[j]? = some e) : ∃ i, ks[j]? = some i ∧ e.key = kv i ∧ e.val = Ptr (E i) := by
  have h1 : (es.toList.map (fun e => (e.key, e.val)))[j]? = some (e.key, e.val) := by simp [he]
  rw [h] at h1
  simp only [List.getElem?_map, Option.map_eq_some_iff, Prod.mk.injEq] at h1
  obtain ⟨i, hi, e1, e2⟩ := h1
  exact ⟨i, hi, e1.symm, e2.symm⟩
theorem Ents.size {E : Nat → Nat} {es : Array MapEntry} {ks : List Nat} (h : Ents E es ks) : es.size = ks.length := by
  have := congrArg List.length h
  simpa using this
theorem Ents.has {E : Nat → Nat} {es : Array MapEntry} {ks : List Nat} (h : Ents E es ks) {i : Nat} (hi : i ∈ ks) : ∃ e ∈ es.toList, e.key = kv i := by
  have : (kv i, Ptr (E i)) ∈ ks.map fun i => (kv i, Ptr (E i)) := List.mem_map.2 ⟨i, hi, rfl⟩
  rw [← h] at this
  obtain ⟨e, he, e1⟩ := List.mem_map.1 this
  simp only [Prod.mk.injEq] at e1
  exact ⟨e, he, e1.1⟩
theorem Ents.keyed {E : Nat → Nat} {es : Array MapEntry} {ks : List Nat} (h : Ents E es ks) : ∀ e ∈ es.toList, ∃ l, keyOf Try.prog 49 e.key = some l := by
  intro e he
  obtain ⟨i, _, h1, _⟩ := h.keys he
  rw [h1]
  exact key_ok i
theorem Ents.congr {E E' : Nat → Nat} {es : Array MapEntry} {ks : List Nat} (h : Ents E es ks) (hE : ∀ i ∈ ks, E' i = E i) : Ents E' es ks := by
  unfold Ents at *
  rw [h]
  exact List.map_congr_left (fun i hi => by rw [hE i hi])

/-- What the search finds. -/
theorem find_hit {E : Nat → Nat} {es : Array MapEntry} {ks : List Nat} (h : Ents E es ks) (hk : ∀ i ∈ ks, i < 1000000) (hd : ks.Nodup) {i : Nat} (hi : i ∈ ks) (w : World) :
    ∃ j, (Instr.findKey 49 (kv i) es.toList).run Try.prog w = .ok (some (j, Ptr (E i))) w ∧ ks[j]? = some i ∧ (∃ e, es[j]? = some e ∧ e.key = kv i ∧ e.val = Ptr (E i)) := by
  obtain ⟨l, hl⟩ := key_ok i
  rcases law49.find w hl es.toList h.keyed with ⟨_, h2⟩ | ⟨j, e, h1, h2, h3⟩
  · obtain ⟨e, he, h4⟩ := h.has hi
    exact absurd h4 (h2 e he)
  · obtain ⟨i', hi', k1, k2⟩ := h.at h2
    have : i' = i := kv_inj (hk i' (List.mem_of_getElem? hi')) (hk i hi) (by rw [← k1, h3])
    subst this
    exact ⟨j, by rw [h1, k2], hi', e, by simpa using h2, k1, k2⟩
theorem find_miss {E : Nat → Nat} {es : Array MapEntry} {ks : List Nat} (h : Ents E es ks) (hk : ∀ i ∈ ks, i < 1000000) {i : Nat} (hi1 : i < 1000000) (hi : i ∉ ks) (w : World) :
    (Instr.findKey 49 (kv i) es.toList).run Try.prog w = .ok none w := by
  obtain ⟨l, hl⟩ := key_ok i
  rcases law49.find w hl es.toList h.keyed with ⟨h1, _⟩ | ⟨j, e, h1, h2, h3⟩
  · exact h1
  · obtain ⟨i', hi', k1, k2⟩ := h.at h2
    have hm := List.mem_of_getElem? hi'
    have : i' = i := kv_inj (hk i' hm) hi1 (by rw [← k1, h3])
    subst this
    exact absurd hm hi

section
variable {w : World} {b : Nat} {es : Array MapEntry} {ck : Nat} {E : Nat → Nat} {ks : List Nat}
theorem zero37 (w : World) : (zeroValue 37).run Try.prog w = .ok (.pointer none) w := by kernel_rfl
theorem check49 (w : World) (em : Bool) (i : Nat) : (Instr.checkKey em 10000 49 (kv i)).run Try.prog w = .ok () w := by
  obtain ⟨l, hl⟩ := key_ok i
  exact law49.check w em hl

/-- 'l.keys[key]' -/
theorem run_lookup (hb : w.heap[b]? = some (.map es ck)) (h : Ents E es ks) (hk : ∀ i ∈ ks, i < 1000000) (hd : ks.Nodup) {i : Nat} (hi : i < 1000000) :
    (Instr.lookup 88 (.map (some b)) (kv i) false).run Try.prog w = .ok (if i ∈ ks then Ptr (E i) else .pointer none) w ∧
    (Instr.lookup 88 (.map (some b)) (kv i) true).run Try.prog w = .ok (.tuple #[if i ∈ ks then Ptr (E i) else .pointer none, .bool (decide (i ∈ ks))]) w := by
  by_cases hm : i ∈ ks
  · obtain ⟨j, h1, _⟩ := find_hit h hk hd hm w
    simp [Instr.lookup, run_underlying Try.underlying88, MapKept.run_getObj_map hb, check49 w _ i, h1, Result.andThen, hm]
  · have h1 := find_miss h hk hi hm w
    simp [Instr.lookup, run_underlying Try.underlying88, MapKept.run_getObj_map hb, check49 w _ i, h1, Result.andThen, hm]

/-- 'l.keys[key] = el', the key a new one -/
theorem run_update (hb : w.heap[b]? = some (.map es ck)) (h : Ents E es ks) (hk : ∀ i ∈ ks, i < 1000000) {i : Nat} (hi : i < 1000000) (hn : i ∉ ks) (v : Value) :
    (Instr.mapUpdate 88 (.map (some b)) (kv i) v).run Try.prog w = .ok () (ChangeMaps.setBlock w b (.map (es.push ⟨kv i, v, ck⟩) (ck + 1))) := by
  have h1 := find_miss h hk hi hn w
  simp [Instr.mapUpdate, run_underlying Try.underlying88, MapKept.run_getObj_map hb, check49 w _ i, h1, MapKept.run_setObj_map _ hb, Result.andThen, ChangeMaps.setBlock]
theorem Ents.push (h : Ents E es ks) (i : Nat) : Ents E (es.push ⟨kv i, Ptr (E i), ck⟩) (ks ++ [i]) := by
  unfold Ents at *
  simp [h]

theorem eraseIdx_map' {α β : Type} (f : α → β) : ∀ (l : List α) (j : Nat), (l.eraseIdx j).map f = (l.map f).eraseIdx j
  | [], _ => by simp
  | _ :: l, 0 => by simp
  | _ :: l, j + 1 => by simp [eraseIdx_map' f l j]
theorem eraseIdx_nodup : ∀ {l : List Nat} {j i : Nat}, l.Nodup → l[j]? = some i → l.eraseIdx j = l.erase i
  | [], _, _, _, h => by simp at h
  | x :: l, 0, i, _, h => by
    have : x = i := by simpa using h
    subst this
    simp
  | x :: l, j + 1, i, hd, h => by
    have hd' := List.nodup_cons.1 hd
    have h' : l[j]? = some i := by simpa using h
    have hx : x ≠ i := fun e => hd'.1 (e ▸ List.mem_of_getElem? h')
    rw [List.eraseIdx_cons_succ, List.erase_cons_tail (by simpa using hx), eraseIdx_nodup hd'.2 h']
/-- 'delete(l.keys, key)' -/
theorem run_delete (hb : w.heap[b]? = some (.map es ck)) (h : Ents E es ks) (hk : ∀ i ∈ ks, i < 1000000) (hd : ks.Nodup) {i : Nat} (hi : i < 1000000) (ty : TypeId) :
    ∃ es', (Builtin.delete_ #[88, 49] ty #[.map (some b), kv i]).run Try.prog w = .ok (.tuple #[]) (ChangeMaps.setBlock w b (.map es' ck)) ∧ Ents E es' (ks.erase i) := by
  by_cases hm : i ∈ ks
  · obtain ⟨j, h1, h2, e, h3, h4, h5⟩ := find_hit h hk hd hm w
    refine ⟨es.eraseIdxIfInBounds j, ?_, ?_⟩
    · simp [Builtin.delete_, run_underlying Try.underlying88, MapKept.run_getObj_map hb, check49 w _ i, h1, MapKept.run_setObj_map _ hb, Result.andThen, ChangeMaps.setBlock]
    · have hjs : j < es.size := by
        rcases Nat.lt_or_ge j es.size with h' | h'
        · exact h'
        · rw [Array.getElem?_eq_none h'] at h3; cases h3
      have hsub : (es.eraseIdxIfInBounds j).toList = es.toList.eraseIdx j := by
        unfold Array.eraseIdxIfInBounds
        rw [dif_pos hjs]
        simp
      unfold Ents at *
      have he : ks.eraseIdx j = ks.erase i := by
        exact eraseIdx_nodup hd h2
      rw [hsub, eraseIdx_map', h, ← eraseIdx_map', he]
  · have h1 := find_miss h hk hi hm w
    refine ⟨es, ?_, by rw [List.erase_of_not_mem hm]; exact h⟩
    simp [Builtin.delete_, run_underlying Try.underlying88, MapKept.run_getObj_map hb, check49 w _ i, h1, MapKept.run_setObj_map _ hb, Result.andThen, ChangeMaps.setBlock]
end
end Go.Proofs.Qxb6612554a
