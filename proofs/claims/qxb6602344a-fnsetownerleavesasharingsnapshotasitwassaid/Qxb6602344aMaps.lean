import Derived.Test.Qxb6602344aRows
import Derived.WalkKit
import Derived.ProofKit
import Derived.WalkSpells
import Derived.Below
import Derived.Deep.RegionHeld3
import Derived.Deep.DrawnRows
import Derived.Maps.AppendAt
import Derived.Maps.OwnOps
import Derived.Maps.RangeWalk
import Derived.Maps.RangeRun
namespace Go.Proofs.Qxb6602344a
open Go.ChangeShapes Go.WideShapes Go.ChangeAt Go.RowKit
open Classical
set_option linter.unusedVariables false

theorem law9 : Maps.Keyed Try.prog 9 := Maps.string_keyed Try.underlying9
abbrev Ptr (b : Nat) : Value := .pointer (some ⟨b, 0, none⟩)
theorem lt_of_heap {w : World} {b : Nat} {o : Obj} (h : w.heap[b]? = some o) : b < w.heap.size := by
  rcases Nat.lt_or_ge b w.heap.size with h' | h'
  · exact h'
  · rw [Array.getElem?_eq_none h'] at h; cases h

/-- A MAP WITH STRING KEYS: its keys, in the order in which they came, and what stands at each. -/
structure MapIs (w : World) (hm : Nat) (keys : List ByteArray) (vs : ByteArray → Value) : Prop where
  ex : ∃ es ck, w.heap[hm]? = some (.map es ck) ∧ es.toList.map (fun e => (e.key, e.val)) = keys.map (fun k => (Value.string k, vs k)) ∧ (es.toList.map (·.born)).Nodup ∧ ∀ e ∈ es.toList, e.born < ck
  nd : keys.Nodup
  sz : ∀ k ∈ keys, k.size ≤ maxLen
noncomputable def addK (keys : List ByteArray) (k : ByteArray) : List ByteArray := if k ∈ keys then keys else keys ++ [k]
noncomputable def updV {α : Type} (vs : ByteArray → α) (k : ByteArray) (v : α) : ByteArray → α := fun x => if x = k then v else vs x
theorem mem_addK {keys : List ByteArray} {k x : ByteArray} : x ∈ addK keys k ↔ x ∈ keys ∨ x = k := by
  unfold addK
  split
  · constructor
    · exact Or.inl
    · rintro (h | rfl)
      · exact h
      · assumption
  · simp
theorem addK_nodup {keys : List ByteArray} (h : keys.Nodup) (k : ByteArray) : (addK keys k).Nodup := by
  unfold addK
  split
  · exact h
  · next hk => exact List.nodup_append.2 ⟨h, by simp, fun a ha b hb => by simp at hb; subst hb; intro e; subst e; exact hk ha⟩
theorem updV_at {α : Type} (vs : ByteArray → α) (k : ByteArray) (v : α) : updV vs k v k = v := by simp [updV]
theorem updV_far {α : Type} (vs : ByteArray → α) {k x : ByteArray} (v : α) (h : x ≠ k) : updV vs k v x = vs x := by simp [updV, h]

section
variable {w : World} {hm : Nat} {keys : List ByteArray} {vs : ByteArray → Value}
theorem MapIs.same {w' : World} (h : MapIs w hm keys vs) (e : w'.heap[hm]? = w.heap[hm]?) : MapIs w' hm keys vs := by
  obtain ⟨⟨es, ck, h1, h2, h3, h4⟩, h5, h6⟩ := h
  exact ⟨⟨es, ck, by rw [e]; exact h1, h2, h3, h4⟩, h5, h6⟩
theorem MapIs.lt (h : MapIs w hm keys vs) : hm < w.heap.size := by
  obtain ⟨es, ck, h1, _⟩ := h.ex
  exact lt_of_heap h1
theorem MapIs.made (w : World) (vs : ByteArray → Value) : MapIs (w.alloc (.map #[] 0)) w.heap.size [] vs :=
  ⟨⟨#[], 0, heap_alloc_new _ _, rfl, by simp, by simp⟩, by simp, by simp⟩

theorem keyed_of {es : Array MapEntry} (h2 : es.toList.map (fun e => (e.key, e.val)) = keys.map (fun k => (Value.string k, vs k))) (hs : ∀ k ∈ keys, k.size ≤ maxLen) :
    ∀ e ∈ es.toList, ∃ l, keyOf Try.prog 9 e.key = some l := by
  intro e he
  have : (e.key, e.val) ∈ es.toList.map (fun e => (e.key, e.val)) := List.mem_map.2 ⟨e, he, rfl⟩
  rw [h2] at this
  obtain ⟨k, hk, e1⟩ := List.mem_map.1 this
  simp only [Prod.mk.injEq] at e1
  exact ⟨_, by rw [← e1.1]; exact Go.WideMaps.keyOf_string_mk Try.underlying9 (hs k hk)⟩
theorem entry_of {es : Array MapEntry} (h2 : es.toList.map (fun e => (e.key, e.val)) = keys.map (fun k => (Value.string k, vs k))) {j : Nat} {e : MapEntry} (he : es.toList[j]? = some e) :
    ∃ k, keys[j]? = some k ∧ e.key = .string k ∧ e.val = vs k := by
  have h1 : (es.toList.map (fun e => (e.key, e.val)))[j]? = some (e.key, e.val) := by simp [he]
  rw [h2] at h1
  simp only [List.getElem?_map, Option.map_eq_some_iff, Prod.mk.injEq] at h1
  obtain ⟨i, hi, e1, e2⟩ := h1
  exact ⟨i, hi, e1.symm, e2.symm⟩

/-- What stands at k. -/
theorem MapIs.find (h : MapIs w hm keys vs) (k : ByteArray) (hk : k.size ≤ maxLen) : ∃ es ck, w.heap[hm]? = some (.map es ck) ∧ es.toList.map (fun e => (e.key, e.val)) = keys.map (fun k => (Value.string k, vs k)) ∧ (es.toList.map (·.born)).Nodup ∧ (∀ e ∈ es.toList, e.born < ck) ∧
    ((k ∉ keys ∧ (Instr.findKey 9 (.string k) es.toList).run Try.prog w = .ok none w) ∨ (k ∈ keys ∧ ∃ j e, (Instr.findKey 9 (.string k) es.toList).run Try.prog w = .ok (some (j, vs k)) w ∧ keys[j]? = some k ∧ es[j]? = some e ∧ e.key = .string k)) := by
  obtain ⟨es, ck, h1, h2, h3, h4⟩ := h.ex
  refine ⟨es, ck, h1, h2, h3, h4, ?_⟩
  have hl := Go.WideMaps.keyOf_string_mk (P := Try.prog) Try.underlying9 hk
  rcases law9.find w hl es.toList (keyed_of h2 h.sz) with ⟨f1, f2⟩ | ⟨j, e, f1, f2, f3⟩
  · refine Or.inl ⟨fun hm => ?_, f1⟩
    have : (Value.string k, vs k) ∈ keys.map (fun k => (Value.string k, vs k)) := List.mem_map.2 ⟨k, hm, rfl⟩
    rw [← h2] at this
    obtain ⟨e, he, e1⟩ := List.mem_map.1 this
    simp only [Prod.mk.injEq] at e1
    exact f2 e he e1.1
  · obtain ⟨k', g1, g2, g3⟩ := entry_of h2 f2
    have : k' = k := by rw [g2] at f3; exact Value.string.inj f3
    subst this
    exact Or.inr ⟨List.mem_of_getElem? g1, j, e, by rw [f1, g3], g1, by simpa using f2, g2⟩

theorem MapIs.look (h : MapIs w hm keys vs) {T E : TypeId} (ht : Try.prog.underlying T = some (.map 9 E)) {z : Value} (hz : (zeroValue E).run Try.prog w = .ok z w) {k : ByteArray} (hk : k.size ≤ maxLen) :
    (Instr.lookup T (.map (some hm)) (.string k) false).run Try.prog w = .ok (if k ∈ keys then vs k else z) w ∧
    (Instr.lookup T (.map (some hm)) (.string k) true).run Try.prog w = .ok (.tuple #[if k ∈ keys then vs k else z, .bool (decide (k ∈ keys))]) w := by
  obtain ⟨es, ck, h1, h2, h3, h4, hf⟩ := h.find k hk
  have hl := Go.WideMaps.keyOf_string_mk (P := Try.prog) Try.underlying9 hk
  rcases hf with ⟨hn, f⟩ | ⟨hi, j, e, f, _⟩
  · simp [Instr.lookup, run_underlying ht, MapKept.run_getObj_map h1, law9.check w _ hl, f, Result.andThen, hn, hz]
  · simp [Instr.lookup, run_underlying ht, MapKept.run_getObj_map h1, law9.check w _ hl, f, Result.andThen, hi]

theorem MapIs.update (h : MapIs w hm keys vs) {T E : TypeId} (ht : Try.prog.underlying T = some (.map 9 E)) {k : ByteArray} (hk : k.size ≤ maxLen) (v : Value) :
    ∃ w', (Instr.mapUpdate T (.map (some hm)) (.string k) v).run Try.prog w = .ok () w' ∧ MapIs w' hm (addK keys k) (updV vs k v) ∧ (∀ b, b ≠ hm → w'.heap[b]? = w.heap[b]?) ∧ w.grownBy w' (some hm) ∧ w'.heap.size = w.heap.size := by
  obtain ⟨es, ck, h1, h2, h3, h4, hf⟩ := h.find k hk
  have hl := Go.WideMaps.keyOf_string_mk (P := Try.prog) Try.underlying9 hk
  have hlt := lt_of_heap h1
  have hset : ∀ o : Obj, (ChangeMaps.setBlock w hm o).heap[hm]? = some o := fun o => by simp [ChangeMaps.setBlock, hlt]
  have hfar : ∀ (o : Obj) b, b ≠ hm → (ChangeMaps.setBlock w hm o).heap[b]? = w.heap[b]? := fun o b hb => by
    simp only [ChangeMaps.setBlock]
    rw [Array.getElem?_setIfInBounds, if_neg (fun e => hb e.symm)]
  have hsz : ∀ o : Obj, (ChangeMaps.setBlock w hm o).heap.size = w.heap.size := fun o => by simp [ChangeMaps.setBlock]
  have hgr : ∀ o : Obj, w.grownBy (ChangeMaps.setBlock w hm o) (some hm) := fun o => ⟨rfl, rfl, rfl, by rw [hsz]; exact Nat.le_refl _, fun b _ hb => hfar o b (fun e => hb (by rw [e]))⟩
  rcases hf with ⟨hn, f⟩ | ⟨hi, j, e, f, g1, g2, g3⟩
  · refine ⟨ChangeMaps.setBlock w hm (.map (es.push ⟨.string k, v, ck⟩) (ck + 1)), ?_, ⟨⟨_, _, hset _, ?_, ?_, ?_⟩, addK_nodup h.nd k, ?_⟩, hfar _, hgr _, hsz _⟩
    · simp [Instr.mapUpdate, run_underlying ht, MapKept.run_getObj_map h1, law9.check w false hl, f, MapKept.run_setObj_map _ h1, Result.andThen, ChangeMaps.setBlock]
    · unfold addK
      rw [if_neg hn, Array.toList_push, List.map_append, List.map_append, h2]
      congr 1
      · apply List.map_congr_left
        intro x hx
        rw [updV_far _ _ (fun (e : x = k) => hn (by rw [← e]; exact hx))]
      · simp [updV_at]
    · rw [Array.toList_push, List.map_append]
      refine List.nodup_append.2 ⟨h3, by simp, fun a ha b hb => ?_⟩
      simp at hb
      subst hb
      obtain ⟨x, hx, rfl⟩ := List.mem_map.1 ha
      exact Nat.ne_of_lt (h4 x hx)
    · intro x hx
      rw [Array.toList_push] at hx
      rcases List.mem_append.1 hx with hx | hx
      · exact Nat.lt_succ_of_lt (h4 x hx)
      · simp at hx; subst hx; exact Nat.lt_succ_self _
    · intro x hx
      rcases mem_addK.1 hx with hx | rfl
      · exact h.sz x hx
      · exact hk
  · have hj : es[j]? = some e := g2
    have hkeys : addK keys k = keys := if_pos hi
    have hjl : j < es.size := by
      rcases Nat.lt_or_ge j es.size with h' | h'
      · exact h'
      · rw [Array.getElem?_eq_none h'] at g2; cases g2
    have htl : (es.modify j (fun e' => { e' with key := .string k, val := v })).toList = es.toList.modify j (fun e' => { e' with key := .string k, val := v }) := by simp
    refine ⟨ChangeMaps.setBlock w hm (.map (es.modify j (fun e' => { e' with key := .string k, val := v })) ck), ?_, ⟨⟨_, _, hset _, ?_, ?_, ?_⟩, addK_nodup h.nd k, ?_⟩, hfar _, hgr _, hsz _⟩
    · simp [Instr.mapUpdate, run_underlying ht, MapKept.run_getObj_map h1, law9.check w false hl, f, hj, g3, law9.stays w hl, MapKept.run_setObj_map _ h1, Result.andThen, ChangeMaps.setBlock]
    · rw [hkeys]
      apply List.ext_getElem?
      intro i
      have hi2 : (es.toList.map (fun e => (e.key, e.val)))[i]? = (keys.map (fun k => (Value.string k, vs k)))[i]? := by rw [h2]
      rw [htl]
      simp only [List.getElem?_map, List.getElem?_modify] at hi2 ⊢
      by_cases hij : j = i
      · subst hij
        rw [g1, Array.getElem?_toList, g2]
        simp [updV_at]
      · simp only [if_neg hij]
        rw [show ((fun a => a) <$> es.toList[i]?) = es.toList[i]? by cases es.toList[i]? <;> rfl, hi2]
        cases hki : keys[i]? with
        | none => rfl
        | some k' =>
          have hne : k' ≠ k := by
            rintro rfl
            have a1 := (List.getElem?_eq_some_iff.1 g1)
            have a2 := (List.getElem?_eq_some_iff.1 hki)
            obtain ⟨p1, p2⟩ := a1
            obtain ⟨q1, q2⟩ := a2
            exact hij ((List.getElem_inj h.nd).1 (p2.trans q2.symm))
          simp [updV_far _ _ hne]
    · rw [htl]
      have : (es.toList.modify j (fun e' => { e' with key := .string k, val := v })).map (·.born) = es.toList.map (·.born) := by
        apply List.ext_getElem?
        intro i
        simp only [List.getElem?_map, List.getElem?_modify]
        by_cases hij : j = i
        · subst hij
          rw [Array.getElem?_toList, g2]
          simp
        · simp [hij]
      rw [this]
      exact h3
    · intro x hx
      rw [htl] at hx
      obtain ⟨i, hi'⟩ := List.mem_iff_getElem?.1 hx
      simp only [List.getElem?_modify] at hi'
      obtain ⟨y, hy, rfl⟩ := Option.map_eq_some_iff.1 hi'
      have := h4 y (List.mem_of_getElem? hy)
      split <;> exact this
    · rw [hkeys]; exact h.sz
end
end Go.Proofs.Qxb6602344a
