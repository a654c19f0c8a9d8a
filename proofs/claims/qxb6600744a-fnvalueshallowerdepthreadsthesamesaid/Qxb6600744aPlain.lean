import Derived.Test.Qxb6600744aInt
namespace Go.Proofs.Qxb6600744a
open Go.ChangeShapes Go.WideShapes Go.ChangeAt Go.RowKit
set_option linter.unusedVariables false

inductive Md where
  | val
  | obj
  | arr
/-- WHAT 'value' READS, off place p: where it stops, or nothing. ('obj', 'arr': the loop of an object, of a list; the flag: is this the first round?) -/
def V (B : List Int) : Nat → Md → Int → Bool → Nat → Option Nat
  | 0, _, _, _, _ => none
  | f + 1, .val, d, _, p => match B[p]? with
    | none => none
    | some x => if d = 32 then none else if x = 123 then V B f .obj d true (p + 1) else if x = 91 then V B f .arr d true (p + 1) else if x = 34 then strP B p
      else if x = 116 then needP B ⟨#[116, 114, 117, 101]⟩ p else if x = 102 then needP B ⟨#[102, 97, 108, 115, 101]⟩ p else if x = 110 then needP B ⟨#[110, 117, 108, 108]⟩ p else numP B p
  | f + 1, .obj, d, first, p => if litB B ⟨#[125]⟩ p then some (p + 1) else ((((if first then some p else needP B ⟨#[44]⟩ p).bind (strP B)).bind (needP B ⟨#[58]⟩)).bind (V B f .val (d + 1) true)).bind (V B f .obj d false)
  | f + 1, .arr, d, first, p => if litB B ⟨#[93]⟩ p then some (p + 1) else ((if first then some p else needP B ⟨#[44]⟩ p).bind (V B f .val (d + 1) true)).bind (V B f .arr d false)

theorem needP_le {B : List Int} {s : ByteArray} {p q : Nat} (h : needP B s p = some q) : p + s.size = q := by
  unfold needP at h
  split at h
  · exact Option.some.inj h
  · cases h
theorem comma_le {B : List Int} {first : Bool} {p q : Nat} (h : (if first then some p else needP B ⟨#[44]⟩ p) = some q) : p ≤ q := by
  cases first
  · have := needP_le h; omega
  · cases h; omega

/-- Something is read. -/
theorem V_lt (B : List Int) : ∀ (f : Nat) (m : Md) (d : Int) (first : Bool) (p q : Nat), V B f m d first p = some q → p < q
  | 0, m, d, first, p, q, h => by simp [V] at h
  | f + 1, .val, d, first, p, q, h => by
    rw [V] at h
    split at h
    · cases h
    · split at h
      · cases h
      split at h
      · have := V_lt B f _ _ _ _ _ h; omega
      split at h
      · have := V_lt B f _ _ _ _ _ h; omega
      split at h
      · exact strP_lt h
      split at h
      · have e := needP_le h
        have : (⟨#[116, 114, 117, 101]⟩ : ByteArray).size = 4 := rfl
        omega
      split at h
      · have e := needP_le h
        have : (⟨#[102, 97, 108, 115, 101]⟩ : ByteArray).size = 5 := rfl
        omega
      split at h
      · have e := needP_le h
        have : (⟨#[110, 117, 108, 108]⟩ : ByteArray).size = 4 := rfl
        omega
      · exact numP_lt h
  | f + 1, .obj, d, first, p, q, h => by
    rw [V] at h
    split at h
    · cases h; omega
    · obtain ⟨r4, h4, h5⟩ := Option.bind_eq_some_iff.1 h
      obtain ⟨r3, h3, h4⟩ := Option.bind_eq_some_iff.1 h4
      obtain ⟨r2, h2, h3⟩ := Option.bind_eq_some_iff.1 h3
      obtain ⟨r1, h1, h2⟩ := Option.bind_eq_some_iff.1 h2
      have a1 := comma_le h1
      have a2 := strP_lt h2
      have a3 := needP_le h3
      have a4 := V_lt B f _ _ _ _ _ h4
      have a5 := V_lt B f _ _ _ _ _ h5
      omega
  | f + 1, .arr, d, first, p, q, h => by
    rw [V] at h
    split at h
    · cases h; omega
    · obtain ⟨r4, h4, h5⟩ := Option.bind_eq_some_iff.1 h
      obtain ⟨r1, h1, h4⟩ := Option.bind_eq_some_iff.1 h4
      have a1 := comma_le h1
      have a4 := V_lt B f _ _ _ _ _ h4
      have a5 := V_lt B f _ _ _ _ _ h5
      omega

/-- THE PLAIN LAW: what is read at depth d is read at each lesser depth e. -/
theorem V_shallower (B : List Int) : ∀ (f : Nat) (m : Md) (d e : Int) (first : Bool) (p q : Nat), e ≤ d → d ≤ 32 → (m = .val ∨ d ≤ 31) → V B f m d first p = some q → V B f m e first p = some q
  | 0, m, d, e, first, p, q, _, _, _, h => by simp [V] at h
  | f + 1, .val, d, e, first, p, q, hed, h32, hm, h => by
    rw [V] at h ⊢
    split at h
    · cases h
    · next x hx =>
      split at h
      · cases h
      · next hd =>
        rw [if_neg (show ¬ e = 32 by omega)]
        by_cases h1 : x = 123
        · rw [if_pos h1] at h ⊢
          exact V_shallower B f _ d e _ _ _ hed h32 (Or.inr (by omega)) h
        rw [if_neg h1] at h ⊢
        by_cases h2 : x = 91
        · rw [if_pos h2] at h ⊢
          exact V_shallower B f _ d e _ _ _ hed h32 (Or.inr (by omega)) h
        rw [if_neg h2] at h ⊢
        exact h
  | f + 1, .obj, d, e, first, p, q, hed, h32, hm, h => by
    have hd : d ≤ 31 := by rcases hm with h | h; cases h; exact h
    rw [V] at h ⊢
    split at h
    · next hl => rw [if_pos hl]; exact h
    · next hl =>
      rw [if_neg hl]
      obtain ⟨r4, h4, h5⟩ := Option.bind_eq_some_iff.1 h
      obtain ⟨r3, h3, h4⟩ := Option.bind_eq_some_iff.1 h4
      rw [h3]
      refine Option.bind_eq_some_iff.2 ⟨r4, ?_, V_shallower B f _ d e _ _ _ hed h32 (Or.inr hd) h5⟩
      exact V_shallower B f .val (d + 1) (e + 1) _ _ _ (by omega) (by omega) (Or.inl rfl) h4
  | f + 1, .arr, d, e, first, p, q, hed, h32, hm, h => by
    have hd : d ≤ 31 := by rcases hm with h | h; cases h; exact h
    rw [V] at h ⊢
    split at h
    · next hl => rw [if_pos hl]; exact h
    · next hl =>
      rw [if_neg hl]
      obtain ⟨r4, h4, h5⟩ := Option.bind_eq_some_iff.1 h
      obtain ⟨r3, h3, h4⟩ := Option.bind_eq_some_iff.1 h4
      rw [h3]
      refine Option.bind_eq_some_iff.2 ⟨r4, ?_, V_shallower B f _ d e _ _ _ hed h32 (Or.inr hd) h5⟩
      exact V_shallower B f .val (d + 1) (e + 1) _ _ _ (by omega) (by omega) (Or.inl rfl) h4

/-- How far the loops have to go. -/
def curM (w : World) (cb : Nat) : Nat := match w.heap[cb]? with
  | some (.cells #[.slice _ n _, .bool ok] _ _) => 2 * n + (if ok then 1 else 0)
  | _ => 0
theorem Cur.measure {w : World} {cb bb : Nat} {B : List Int} {p : Nat} {ok : Bool} (h : Cur w cb bb B p ok) : curM w cb = 2 * (B.length - p) + (if ok then 1 else 0) := by
  obtain ⟨o, h1, h2, h3, h4, h5⟩ := h
  unfold curM
  rw [h4]
  rfl
theorem Cur.le {w : World} {cb bb : Nat} {B : List Int} {p : Nat} {ok : Bool} (h : Cur w cb bb B p ok) : p ≤ B.length := by
  obtain ⟨o, h1, h2, h3, h4, h5⟩ := h
  exact h2
theorem Res.rebase {w : World} {cb bb : Nat} {B : List Int} {p p' : Nat} {o : Option Nat} (h : Res w cb bb B p o) (hp : p' ≤ p) : Res w cb bb B p' o := by
  rcases h with ⟨q, h1, h2, h3⟩ | ⟨h1, q, h2, h3⟩
  · exact Or.inl ⟨q, h1, by omega, h3⟩
  · exact Or.inr ⟨h1, q, by omega, h3⟩
end Go.Proofs.Qxb6600744a
