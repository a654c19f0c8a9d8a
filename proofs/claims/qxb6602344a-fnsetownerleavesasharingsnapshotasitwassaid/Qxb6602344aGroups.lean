import Derived.Test.Qxb6602344aMaps
namespace Go.Proofs.Qxb6602344a
open Go.ChangeShapes Go.WideShapes Go.ChangeAt Go.RowKit
open Classical
set_option linter.unusedVariables false

theorem ownsRow_kept {w w' : World} {base : Nat} {e : TypeId} {size : Nat} {v : Value} {n : Nat} {xs : List Value} (h : w.ownsRow base e size v n xs) (hb : ∀ g, v.ownBlock = some g → w'.heap[g]? = w.heap[g]?) : w'.ownsRow base e size v n xs := by
  obtain ⟨h1, h2⟩ := h
  refine ⟨h1, ?_⟩
  rcases h2 with h2 | ⟨g, cap, cur, rfl, a1, a2, a3⟩
  · exact Or.inl h2
  · exact Or.inr ⟨g, cap, cur, rfl, a1, by rw [hb g rfl]; exact a2, a3⟩
theorem ownsRow_block {w : World} {base : Nat} {e : TypeId} {size : Nat} {v : Value} {n : Nat} {xs : List Value} (h : w.ownsRow base e size v n xs) {g : Nat} (hg : v.ownBlock = some g) : ∃ cur, w.heap[g]? = some (.cells cur e (0, 0)) := by
  rcases h.2 with ⟨rfl, _⟩ | ⟨g', cap, cur, rfl, a1, a2, a3⟩
  · cases hg
  · cases hg; exact ⟨cur, a2⟩

/-- The value at k: nil where there is none. -/
noncomputable def valAt (keys : List ByteArray) (vs : ByteArray → Value) (k : ByteArray) : Value := if k ∈ keys then vs k else .slice none 0 0

/-- A MAP OF ROWS: each key's slice is nil or owns a row; no two of them one row. -/
structure GM (w : World) (hm base : Nat) (e : TypeId) (size : Nat) (keys : List ByteArray) (G : ByteArray → List Value) (vs : ByteArray → Value) : Prop where
  map : MapIs w hm keys vs
  row : ∀ k ∈ keys, ∃ n, w.ownsRow base e size (vs k) n (G k)
  out : ∀ k, k ∉ keys → G k = []
  apart : ∀ k ∈ keys, ∀ k' ∈ keys, k ≠ k' → (vs k).ownBlock ≠ none → (vs k).ownBlock ≠ (vs k').ownBlock

section
variable {w : World} {hm base : Nat} {e : TypeId} {size : Nat} {keys : List ByteArray} {G : ByteArray → List Value} {vs : ByteArray → Value}
theorem GM.made (w : World) (base : Nat) (e : TypeId) (size : Nat) : GM (w.alloc (.map #[] 0)) w.heap.size base e size [] (fun _ => []) (fun _ => .slice none 0 0) :=
  ⟨MapIs.made w _, by simp, fun _ _ => rfl, by simp⟩
theorem GM.at (h : GM w hm base e size keys G vs) (k : ByteArray) : ∃ n, w.ownsRow base e size (valAt keys vs k) n (G k) := by
  unfold valAt
  by_cases hk : k ∈ keys
  · rw [if_pos hk]; exact h.row k hk
  · rw [if_neg hk, h.out k hk]; exact ⟨0, World.ownsRow_nil w base e size⟩
theorem GM.rowLt (h : GM w hm base e size keys G vs) {k : ByteArray} {g : Nat} (hg : (valAt keys vs k).ownBlock = some g) : g < w.heap.size ∧ g ≠ hm := by
  obtain ⟨n, hn⟩ := h.at k
  obtain ⟨cur, hc⟩ := ownsRow_block hn hg
  refine ⟨lt_of_heap hc, ?_⟩
  rintro rfl
  obtain ⟨es, ck, h1, _⟩ := h.map.ex
  rw [hc] at h1
  cases h1
theorem valAt_in {k : ByteArray} (h : k ∈ keys) : valAt keys vs k = vs k := if_pos h
theorem GM.kept {w' : World} (h : GM w hm base e size keys G vs) (hb : ∀ b, b < w.heap.size → (b = hm ∨ ∃ cur, w.heap[b]? = some (.cells cur e (0, 0))) → w'.heap[b]? = w.heap[b]?) : GM w' hm base e size keys G vs := by
  refine ⟨h.map.same (hb hm h.map.lt (Or.inl rfl)), fun k hk => ?_, h.out, h.apart⟩
  obtain ⟨n, hn⟩ := h.row k hk
  refine ⟨n, ownsRow_kept hn (fun g hg => ?_)⟩
  obtain ⟨cur, hc⟩ := ownsRow_block hn hg
  exact hb g (lt_of_heap hc) (Or.inr ⟨cur, hc⟩)

/-- A NEW VALUE AT k. -/
theorem GM.upd {w2 w3 : World} {k : ByteArray} {v' : Value} {n' : Nat} {xs' : List Value} (h : GM w hm base e size keys G vs)
    (hown : w2.ownsRow base e size v' n' xs') (hb : ∀ b, b < w.heap.size → some b ≠ (valAt keys vs k).ownBlock → w2.heap[b]? = w.heap[b]?)
    (hloc : v'.ownBlock = none ∨ v'.ownBlock = (valAt keys vs k).ownBlock ∨ ∃ g, v'.ownBlock = some g ∧ w.heap.size ≤ g)
    (hm3 : MapIs w3 hm (addK keys k) (updV vs k v')) (h3 : ∀ b, b ≠ hm → w3.heap[b]? = w2.heap[b]?) :
    GM w3 hm base e size (addK keys k) (updV G k xs') (updV vs k v') := by
  have hh2 : w2.heap[hm]? = w.heap[hm]? := hb hm h.map.lt (fun hc => (h.rowLt hc.symm).2 rfl)
  have old : ∀ x, x ∈ keys → x ≠ k → ∀ g, (vs x).ownBlock = some g → w3.heap[g]? = w.heap[g]? ∧ g < w.heap.size ∧ some g ≠ (valAt keys vs k).ownBlock := by
    intro x hx hxk g hg
    obtain ⟨l1, l2⟩ := h.rowLt (k := x) (g := g) (by rw [valAt_in hx]; exact hg)
    have hne : some g ≠ (valAt keys vs k).ownBlock := by
      by_cases hk : k ∈ keys
      · rw [valAt_in hk, ← hg]
        exact h.apart x hx k hk hxk (by rw [hg]; simp)
      · unfold valAt; rw [if_neg hk]; simp [Value.ownBlock]
    exact ⟨by rw [h3 g l2, hb g l1 hne], l1, hne⟩
  refine ⟨hm3, fun x hx => ?_, fun x hx => ?_, fun x hx y hy hxy hnn => ?_⟩
  · by_cases hxk : x = k
    · subst hxk
      refine ⟨n', ?_⟩
      rw [updV_at, updV_at]
      refine ownsRow_kept hown (fun g hg => h3 g ?_)
      rintro rfl
      obtain ⟨cur, hc⟩ := ownsRow_block hown hg
      obtain ⟨es, ck, h1, _⟩ := h.map.ex
      rw [hh2, h1] at hc
      cases hc
    · have hx' : x ∈ keys := (mem_addK.1 hx).resolve_right hxk
      obtain ⟨n, hn⟩ := h.row x hx'
      refine ⟨n, ?_⟩
      rw [updV_far _ _ hxk, updV_far _ _ hxk]
      exact ownsRow_kept hn (fun g hg => (old x hx' hxk g hg).1)
  · have h1 : x ≠ k := fun e => hx (mem_addK.2 (Or.inr e))
    rw [updV_far _ _ h1]
    exact h.out x (fun e => hx (mem_addK.2 (Or.inl e)))
  · by_cases hxk : x = k
    · subst hxk
      have hyk : y ≠ x := fun e => hxy e.symm
      have hy' : y ∈ keys := (mem_addK.1 hy).resolve_right hyk
      rw [updV_at] at hnn ⊢
      rw [updV_far _ _ hyk]
      intro he
      cases hvy : (vs y).ownBlock with
      | none => rw [hvy] at he; exact hnn he
      | some g =>
        obtain ⟨_, l1, l2⟩ := old y hy' hyk g hvy
        rw [hvy] at he
        rcases hloc with hl | hl | ⟨g', hl, hge⟩
        · exact hnn hl
        · exact l2 (by rw [← hl, he])
        · rw [hl] at he; cases he; omega
    · have hx' : x ∈ keys := (mem_addK.1 hx).resolve_right hxk
      rw [updV_far _ _ hxk] at hnn ⊢
      by_cases hyk : y = k
      · subst hyk
        rw [updV_at]
        intro he
        cases hvx : (vs x).ownBlock with
        | none => exact hnn hvx
        | some g =>
          obtain ⟨_, l1, l2⟩ := old x hx' hxk g hvx
          rw [hvx] at he
          rcases hloc with hl | hl | ⟨g', hl, hge⟩
          · rw [hl] at he; cases he
          · exact l2 (by rw [← hl, he])
          · rw [hl] at he; cases he; omega
      · rw [updV_far _ _ hyk]
        exact h.apart x hx' y ((mem_addK.1 hy).resolve_right hyk) hxy hnn
end

/-! ### Frames and cells -/
/-- All blocks but those of S stay. -/
structure Fr (S : Nat → Prop) (w w' : World) : Prop where
  os : w'.os = w.os
  tape : w'.tape = w.tape
  output : w'.output = w.output
  size : w.heap.size ≤ w'.heap.size
  block : ∀ k, k < w.heap.size → ¬ S k → w'.heap[k]? = w.heap[k]?
theorem Fr.of_grown {w w' : World} {r : Option Nat} (h : w.grownBy w' r) (S : Nat → Prop) (hS : ∀ k, r = some k → S k) : Fr S w w' := ⟨h.os, h.tape, h.output, h.size, fun k hk hn => h.block k hk (fun e => hn (hS k e.symm))⟩

theorem cell_of_block {w : World} {b : Nat} {c : Array Value} {t : TypeId} {f : Nat × Nat} (h : w.heap[b]? = some (.cells c t f)) (o : Nat) : w.cell? ⟨b, o, none⟩ = c[o]? := by
  simp [World.cell?, h]
theorem frozen_of_block {w : World} {b : Nat} {c : Array Value} {t : TypeId} (h : w.heap[b]? = some (.cells c t (0, 0))) (o : Nat) : w.frozen? ⟨b, o, none⟩ = false := by
  simp [World.frozen?, h]
/-- A block of N cells of type t. -/
def Blk (w : World) (g : Nat) (t : TypeId) (N : Nat) : Prop := ∃ c : Array Value, w.heap[g]? = some (.cells c t (0, 0)) ∧ c.size = N
theorem Blk.lt {w : World} {g : Nat} {t : TypeId} {N : Nat} (h : Blk w g t N) : g < w.heap.size := by obtain ⟨c, h1, _⟩ := h; exact lt_of_heap h1
theorem Blk.fz {w : World} {g : Nat} {t : TypeId} {N : Nat} (h : Blk w g t N) (o : Nat) : w.frozen? ⟨g, o, none⟩ = false := by obtain ⟨c, h1, _⟩ := h; exact frozen_of_block h1 o
theorem Blk.there {w : World} {g : Nat} {t : TypeId} {N : Nat} (h : Blk w g t N) {o : Nat} (ho : o < N) : ∃ v, w.cell? ⟨g, o, none⟩ = some v := by
  obtain ⟨c, h1, h2⟩ := h
  rw [cell_of_block h1]
  exact ⟨_, Array.getElem?_eq_getElem (by omega)⟩
theorem Blk.same {w w' : World} {g : Nat} {t : TypeId} {N : Nat} (h : Blk w g t N) (e : w'.heap[g]? = w.heap[g]?) : Blk w' g t N := by
  obtain ⟨c, h1, h2⟩ := h
  exact ⟨c, by rw [e]; exact h1, h2⟩
theorem Blk.set {w : World} {g o : Nat} {t : TypeId} {N : Nat} (h : Blk w g t N) (v : Value) : Blk (w.setCell ⟨g, o, none⟩ v) g t N := by
  obtain ⟨c, h1, h2⟩ := h
  refine ⟨c.setIfInBounds o v, ?_, by simpa using h2⟩
  simp only [World.setCell, Array.getElem?_modify]
  simp [h1]
theorem Blk.far {w : World} {g g' o : Nat} {t : TypeId} {N : Nat} (h : Blk w g t N) (v : Value) (hne : g ≠ g') : Blk (w.setCell ⟨g', o, none⟩ v) g t N := h.same (Below.heap_setCell _ _ _ _ hne)
theorem Blk.cell_set {w : World} {g o : Nat} {t : TypeId} {N : Nat} (h : Blk w g t N) (v : Value) (ho : o < N) : (w.setCell ⟨g, o, none⟩ v).cell? ⟨g, o, none⟩ = some v := by
  obtain ⟨c, h1, h2⟩ := h
  have e : (w.setCell ⟨g, o, none⟩ v).heap[g]? = some (.cells (c.setIfInBounds o v) t (0, 0)) := by
    simp only [World.setCell, Array.getElem?_modify]
    simp [h1]
  rw [cell_of_block e, Array.getElem?_setIfInBounds_self_of_lt (by omega)]
theorem cell_set_ne (w : World) {g o o' : Nat} (v : Value) (ho : o' ≠ o) : (w.setCell ⟨g, o, none⟩ v).cell? ⟨g, o', none⟩ = w.cell? ⟨g, o', none⟩ := by
  simp only [World.cell?, World.setCell, Array.getElem?_modify]
  cases w.heap[g]? with
  | none => simp
  | some o => cases o <;> simp <;> (try (rw [Array.getElem?_setIfInBounds_ne]; exact fun e => ho e.symm))
theorem cell_set_far (w : World) {g g' o o' : Nat} (v : Value) (hg : g' ≠ g) : (w.setCell ⟨g, o, none⟩ v).cell? ⟨g', o', none⟩ = w.cell? ⟨g', o', none⟩ := by
  have := Below.heap_setCell w ⟨g, o, none⟩ v g' hg
  simp only [World.cell?, this]
end Go.Proofs.Qxb6602344a
