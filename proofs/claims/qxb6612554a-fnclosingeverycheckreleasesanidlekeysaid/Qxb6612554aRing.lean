import Derived.WalkKit
import Derived.WalkSpells
namespace Go.Proofs.Qxb6612554a
open Go.RowKit
set_option linter.unusedVariables false

/-- A pointer to the head of block b. -/
abbrev Ptr (b : Nat) : Value := .pointer (some ⟨b, 0, none⟩)
/-- A node's block: the root's (none) or an element's. -/
def nd (bL : Nat) (E : Nat → Nat) : Option Nat → Nat
  | none => bL
  | some i => E i
def upd {α : Type} (f : Option Nat → α) (x : Option Nat) (v : α) : Option Nat → α := fun y => if y = x then v else f y
theorem upd_same {α : Type} (f : Option Nat → α) (x : Option Nat) (v : α) : upd f x v x = v := by simp [upd]
theorem upd_other {α : Type} (f : Option Nat → α) {x y : Option Nat} (v : α) (h : y ≠ x) : upd f x v y = f y := by simp [upd, h]

/-- The nodes x, then those of the list, then the root again, linked both ways. -/
def Ring (bL : Nat) (E : Nat → Nat) (nx pv : Option Nat → Value) : Option Nat → List Nat → Prop
  | x, [] => nx x = Ptr bL ∧ pv none = Ptr (nd bL E x)
  | x, y :: ys => nx x = Ptr (E y) ∧ pv (some y) = Ptr (nd bL E x) ∧ Ring bL E nx pv (some y) ys

section
variable {bL : Nat} {E : Nat → Nat} {nx pv : Option Nat → Value}

theorem Ring.congr {nx' pv' : Option Nat → Value} : ∀ {l : List Nat} {x : Option Nat}, Ring bL E nx pv x l → nx' x = nx x → (∀ y ∈ l, nx' (some y) = nx (some y)) →
    pv' none = pv none → (∀ y ∈ l, pv' (some y) = pv (some y)) → Ring bL E nx' pv' x l
  | [], x, h, h1, _, h3, _ => ⟨h1.trans h.1, h3.trans h.2⟩
  | y :: ys, x, h, h1, h2, h3, h4 =>
    ⟨h1.trans h.1, (h4 y (by simp)).trans h.2.1, Ring.congr h.2.2 (h2 y (by simp)) (fun z hz => h2 z (by simp [hz])) h3 (fun z hz => h4 z (by simp [hz]))⟩

theorem Ring.congrE {E' : Nat → Nat} : ∀ {l : List Nat} {x : Option Nat}, Ring bL E nx pv x l → nd bL E' x = nd bL E x → (∀ y ∈ l, E' y = E y) → Ring bL E' nx pv x l
  | [], x, h, h1, _ => ⟨h.1, by rw [h1]; exact h.2⟩
  | y :: ys, x, h, h1, h2 =>
    ⟨by rw [h2 y (by simp)]; exact h.1, by rw [h1]; exact h.2.1, Ring.congrE h.2.2 (h2 y (by simp)) (fun z hz => h2 z (by simp [hz]))⟩

/-- Where a node leads: to the first of the rest. -/
theorem Ring.head {l : List Nat} {x : Option Nat} (h : Ring bL E nx pv x l) : nx x = Ptr (nd bL E l.head?) := by
  cases l with
  | nil => exact h.1
  | cons y ys => exact h.1

/-- One that is in the ring is taken out. -/
theorem Ring.remove {i : Nat} : ∀ {l : List Nat} {x : Option Nat}, Ring bL E nx pv x l → i ∈ l → l.Nodup → x ≠ some i → (∀ y ∈ l, x ≠ some y) →
    ∃ p q, (p = x ∨ ∃ y ∈ l, p = some y) ∧ (q = none ∨ ∃ y ∈ l, q = some y) ∧ p ≠ some i ∧ q ≠ some i ∧ nx (some i) = Ptr (nd bL E q) ∧ pv (some i) = Ptr (nd bL E p) ∧
      Ring bL E (upd nx p (Ptr (nd bL E q))) (upd pv q (Ptr (nd bL E p))) x (l.erase i) ∧ (pv none ≠ Ptr (E i) → q ≠ none)
  | [], x, h, hi, _, _, _ => by simp at hi
  | y :: ys, x, h, hi, hn, hx, hxl => by
    obtain ⟨h1, h2, h3⟩ := h
    have hn' := List.nodup_cons.1 hn
    by_cases e : y = i
    · subst e
      rw [List.erase_cons_head]
      cases ys with
      | nil =>
        refine ⟨x, none, Or.inl rfl, Or.inl rfl, hx, by simp, h3.1, h2, ⟨upd_same _ _ _, upd_same _ _ _⟩, fun hh => absurd h3.2 hh⟩
      | cons z zs =>
        obtain ⟨g1, g2, g3⟩ := h3
        have hn2 := List.nodup_cons.1 hn'.2
        refine ⟨x, some z, Or.inl rfl, Or.inr ⟨z, by simp, rfl⟩, hx, ?_, g1, h2, ⟨upd_same _ _ _, upd_same _ _ _, ?_⟩, fun _ => by simp⟩
        · intro hz
          have : z = y := by simpa using hz
          subst this
          exact hn'.1 (by simp)
        · refine Ring.congr g3 (upd_other _ _ ?_) (fun u hu => upd_other _ _ ?_) (upd_other _ _ (by simp)) (fun u hu => upd_other _ _ ?_)
          · exact fun hz => hxl z (by simp) hz.symm
          · exact fun hz => hxl u (by simp [hu]) hz.symm
          · intro hz
            have : u = z := by simpa using hz
            subst this
            exact hn2.1 hu
    · have hi' : i ∈ ys := by
        rcases List.mem_cons.1 hi with h | h
        · exact absurd h.symm e
        · exact h
      obtain ⟨p, q, hp, hq, hpi, hqi, c1, c2, c3, c4⟩ := Ring.remove h3 hi' hn'.2 (by simp [e]) (fun u hu => by
        intro hz
        have : y = u := by simpa using hz
        subst this
        exact hn'.1 hu)
      rw [List.erase_cons_tail (by simp [e])]
      refine ⟨p, q, ?_, ?_, hpi, hqi, c1, c2, ⟨?_, ?_, c3⟩, c4⟩
      · rcases hp with rfl | ⟨u, hu, rfl⟩
        · exact Or.inr ⟨y, by simp, rfl⟩
        · exact Or.inr ⟨u, by simp [hu], rfl⟩
      · rcases hq with rfl | ⟨u, hu, rfl⟩
        · exact Or.inl rfl
        · exact Or.inr ⟨u, by simp [hu], rfl⟩
      · rw [upd_other _ _ ?_]
        · exact h1
        · rcases hp with rfl | ⟨u, hu, rfl⟩
          · exact hxl y (by simp)
          · exact hxl u (by simp [hu])
      · rw [upd_other _ _ ?_]
        · exact h2
        · rcases hq with rfl | ⟨u, hu, rfl⟩
          · simp
          · intro hz
            have : y = u := by simpa using hz
            subst this
            exact hn'.1 hu

/-- One is put in at the end. -/
theorem Ring.push {i : Nat} : ∀ {l : List Nat} {x : Option Nat}, Ring bL E nx pv x l → i ∉ l → l.Nodup → x ≠ some i → (∀ y ∈ l, x ≠ some y) →
    ∃ p, (p = x ∨ ∃ y ∈ l, p = some y) ∧ p ≠ some i ∧ pv none = Ptr (nd bL E p) ∧ nx p = Ptr bL ∧
      Ring bL E (upd (upd nx (some i) (Ptr bL)) p (Ptr (E i))) (upd (upd pv (some i) (Ptr (nd bL E p))) none (Ptr (E i))) x (l ++ [i])
  | [], x, h, hi, _, hx, _ => by
    refine ⟨x, Or.inl rfl, hx, h.2, h.1, upd_same _ _ _, ?_, ?_, upd_same _ _ _⟩
    · rw [upd_other _ _ (by simp), upd_same]
    · rw [upd_other _ _ (fun h => hx h.symm), upd_same]
  | y :: ys, x, h, hi, hn, hx, hxl => by
    obtain ⟨h1, h2, h3⟩ := h
    have hn' := List.nodup_cons.1 hn
    have hiy : i ≠ y := fun e => hi (by simp [e])
    obtain ⟨p, hp, hpi, c1, c2, c3⟩ := Ring.push (i := i) h3 (fun hh => hi (by simp [hh])) hn'.2 (by simp [Ne.symm hiy]) (fun u hu => by
        intro hz
        have : y = u := by simpa using hz
        subst this
        exact hn'.1 hu)
    have hpx : x ≠ p := by
      rcases hp with rfl | ⟨u, hu, rfl⟩
      · exact hxl y (by simp)
      · exact hxl u (by simp [hu])
    refine ⟨p, ?_, hpi, c1, c2, ?_, ?_, c3⟩
    · rcases hp with rfl | ⟨u, hu, rfl⟩
      · exact Or.inr ⟨y, by simp, rfl⟩
      · exact Or.inr ⟨u, by simp [hu], rfl⟩
    · rw [upd_other _ _ hpx, upd_other _ _ hx]; exact h1
    · rw [upd_other _ _ (by simp), upd_other _ _ (by simp [Ne.symm hiy])]; exact h2

/-- The nodes in the order of the ring: one that is at a place leads to the one at the next. -/
theorem Ring.next {l1 l2 : List Nat} {i : Nat} : ∀ {x : Option Nat}, Ring bL E nx pv x (l1 ++ i :: l2) → nx (some i) = Ptr (nd bL E l2.head?) := by
  induction l1 with
  | nil => intro x h; exact h.2.2.head
  | cons y ys ih => intro x h; exact ih h.2.2
end
end Go.Proofs.Qxb6612554a
