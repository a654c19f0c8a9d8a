import Derived.Test.Qxb6600744aCur
namespace Go.Proofs.Qxb6600744a
open Go.ChangeShapes Go.WideShapes Go.ChangeAt Go.RowKit
set_option linter.unusedVariables false

/-- What 'str' makes of the bytes behind the first quote. -/
def scan : List Int → Nat → Option Nat
  | [], _ => none
  | x :: t, i => if x = 34 then some (i + 1) else if x < 32 ∨ 126 < x ∨ x = 92 ∨ x = 60 ∨ x = 62 ∨ x = 38 then none else scan t (i + 1)
def strP (B : List Int) (p : Nat) : Option Nat := if litB B ⟨#[34]⟩ p then scan (B.drop (p + 1)) (p + 1) else none
theorem scan_at {B : List Int} {i : Nat} {v : Int} (hv : B[i]? = some v) : scan (B.drop i) i = if v = 34 then some (i + 1) else if v < 32 ∨ 126 < v ∨ v = 92 ∨ v = 60 ∨ v = 62 ∨ v = 38 then none else scan (B.drop (i + 1)) (i + 1) := by
  have hl : i < B.length := (List.getElem?_eq_some_iff.1 hv).1
  have e : B.drop i = v :: B.drop (i + 1) := by
    rw [List.drop_eq_getElem_cons hl]
    congr 1
    exact (List.getElem?_eq_some_iff.1 hv).2
  rw [e, scan]
theorem scan_end {B : List Int} {i : Nat} (h : B.length ≤ i) : scan (B.drop i) i = none := by rw [List.drop_eq_nil_of_le h]; rfl
theorem scan_lt : ∀ {l : List Int} {i q : Nat}, scan l i = some q → i < q
  | [], i, q, h => by cases h
  | x :: t, i, q, h => by
    rw [scan] at h
    split at h
    · cases h; omega
    · split at h
      · cases h
      · have := scan_lt h; omega
theorem strP_lt {B : List Int} {p q : Nat} (h : strP B p = some q) : p < q := by
  unfold strP at h
  split at h
  · have := scan_lt h; omega
  · cases h

set_option maxRecDepth 20000 in
set_option maxHeartbeats 2000000 in
theorem str_any (w : World) (cb bb : Nat) (B : List Int) (p : Nat) (o : Option Nat) (h : Res w cb bb B p o) (hB : B.length ≤ 2000000) :
    Calls Try.prog 30 #[Ptr cb] w fun e w' => (∃ s, e = .returned (.string s)) ∧ Res w' cb bb B p (o.bind (strP B)) ∧ Below cb w w' := by
  rcases h with ⟨q0, rfl, hpq, hc⟩ | ⟨rfl, q0, hpq, hc⟩
  rotate_left
  · have hL := lit_any w cb bb B q0 false ⟨#[34]⟩ hc hB (by decide) (by decide)
    clear hc
    go_enter Try.func30, Try.ntmps30
    go_wp2_with fail
    refine hL.mono ?_
    rintro e w1 ⟨rfl, hc1, hb1⟩
    have HC1 : Hid (Cur w1 cb bb B q0 false) := hc1
    obtain ⟨o, h1, h2, h3, h4, h5⟩ := hc1
    have c1 := cell_of_block h4 1
    have f1 := frozen_of_block h4 1
    simp at c1
    clear hL h1 h2 h3 h4 h5
    go_wp2
    go_ret
    exact ⟨⟨_, rfl⟩, Or.inr ⟨rfl, q0, hpq, HC1.out.fail⟩, hb1.setCell (Nat.le_refl _) _⟩
  have hL := lit_any w cb bb B q0 true ⟨#[34]⟩ hc hB (by decide) (by decide)
  by_cases hl : litB B ⟨#[34]⟩ q0 = true
  rotate_left
  · have hl' : litB B ⟨#[34]⟩ q0 = false := by simpa using hl
    rw [hl'] at hL
    have HP : Hid (strP B q0 = none) := if_neg hl
    clear hc hl hl'
    go_enter Try.func30, Try.ntmps30
    go_wp2_with fail
    refine hL.mono ?_
    rintro e w1 ⟨rfl, hc1, hb1⟩
    have HC1 : Hid (Cur w1 cb bb B q0 true) := hc1
    obtain ⟨o, h1, h2, h3, h4, h5⟩ := hc1
    have c1 := cell_of_block h4 1
    have f1 := frozen_of_block h4 1
    simp at c1
    clear hL h1 h2 h3 h4 h5
    go_wp2
    go_ret
    exact ⟨⟨_, rfl⟩, Or.inr ⟨HP.out, q0, hpq, HC1.out.fail⟩, hb1.setCell (Nat.le_refl _) _⟩
  rw [hl] at hL
  have HP : Hid (strP B q0 = scan (B.drop (q0 + 1)) (q0 + 1)) := if_pos hl
  clear hc hl
  go_enter Try.func30, Try.ntmps30
  go_wp2_with fail
  refine hL.mono ?_
  rintro e w1 ⟨rfl, hc1, hb1⟩
  have HC1 : Hid (Cur w1 cb bb B (q0 + 1) true) := hc1
  have HB1 : Hid (Below cb w w1) := hb1
  obtain ⟨o, h1, h2, h3, h4, h5⟩ := hc1
  change q0 + 1 ≤ B.length at h2
  change q0 + 1 < B.length → o = q0 + 1 at h1
  have c0 : w1.cell? ⟨cb, 0, none⟩ = some (.slice (some ⟨bb, o, none⟩) (B.length - (q0 + 1)) (B.length - (q0 + 1))) := cell_of_block h4 0
  have c1 : w1.cell? ⟨cb, 1, none⟩ = some (.bool true) := cell_of_block h4 1
  have f0 := frozen_of_block h4 0
  have f1 := frozen_of_block h4 1
  have H5 : Hid _ := h5
  clear hL h4 h5 hb1
  generalize hq : q0 + 1 = q at *
  generalize hn : B.length - q = n at *
  go_wp2
  go_loop [3] (fun t => ∃ k : Nat, k ≤ n ∧ t = .int .i64 k ∧ scan (B.drop q) q = scan (B.drop (q + k)) (q + k)) (fun t => n - (intOf t).toNat)
  case atStart => exact ⟨0, Nat.zero_le _, rfl, rfl⟩
  case round =>
    obtain ⟨k, hk, rfl, hsc⟩ := hrel
    by_cases hlt : k < n
    · obtain rfl : o = q := h1 (by omega)
      have hb : o + k < B.length := by omega
      have e1 : B[o + k]? = some (B[o + k]'hb) := List.getElem?_eq_getElem hb
      generalize B[o + k]'hb = v at e1
      have cv : w1.cell? ⟨bb, o + k, none⟩ = some (.int .u8 v) := byte_cell H5.out e1
      have hkI : (k : Int) < n := by omega
      have HS : Hid _ := hsc
      have HV : Hid _ := scan_at e1
      clear hsc e1 h1
      by_cases h34 : v = 34
      · subst h34
        have hcv := fun c => convert_at H5.out o k c (by omega)
        generalize strOfNums ((B.drop o).take k) = u at *
        have HR : Hid (∀ x, (o + (k + 1) < B.length → x = o + (k + 1)) → Cur (w1.setCell ⟨cb, 0, none⟩ (.slice (some ⟨bb, x, none⟩) (n - (k + 1)) (n - (k + 1)))) cb bb B (o + (k + 1)) true) := by
          intro x hx
          have := HC1.out.read (q := o + (k + 1)) (o := x) (by omega) hx
          rwa [Nat.sub_add_eq, hn] at this
        have HRes : Hid (strP B q0 = some (o + (k + 1))) := by
          show strP B q0 = some (o + (k + 1))
          rw [HP.out, HS.out, HV.out, if_pos rfl]
          rfl
        go_wp2
        · go_ret
          have hR := HR.out o (by omega)
          rw [h, Nat.sub_self] at hR
          exact ⟨⟨_, rfl⟩, Or.inl ⟨o + (k + 1), HRes.out, by omega, hR⟩, HB1.out.setCell (Nat.le_refl _) _⟩
        · go_ret
          exact ⟨⟨_, rfl⟩, Or.inl ⟨o + (k + 1), HRes.out, by omega, HR.out _ (fun _ => rfl)⟩, HB1.out.setCell (Nat.le_refl _) _⟩
      have hb34 : (v == 34) = false := by simpa using h34
      by_cases hb1 : v < 32
      · have HBad : Hid (strP B q0 = none) := by
          show strP B q0 = none
          rw [HP.out, HS.out, HV.out, if_neg h34, if_pos (Or.inl hb1)]
        go_wp2
        go_ret
        exact ⟨⟨_, rfl⟩, Or.inr ⟨HBad.out, o, by omega, HC1.out.fail⟩, HB1.out.setCell (Nat.le_refl _) _⟩
      by_cases hb2 : 126 < v
      · have HBad : Hid (strP B q0 = none) := by
          show strP B q0 = none
          rw [HP.out, HS.out, HV.out, if_neg h34, if_pos (Or.inr (Or.inl hb2))]
        go_wp2
        go_ret
        exact ⟨⟨_, rfl⟩, Or.inr ⟨HBad.out, o, by omega, HC1.out.fail⟩, HB1.out.setCell (Nat.le_refl _) _⟩
      by_cases hb3 : v = 92
      · have HBad : Hid (strP B q0 = none) := by
          show strP B q0 = none
          rw [HP.out, HS.out, HV.out, if_neg h34, if_pos (Or.inr (Or.inr (Or.inl hb3)))]
        go_wp2
        go_ret
        exact ⟨⟨_, rfl⟩, Or.inr ⟨HBad.out, o, by omega, HC1.out.fail⟩, HB1.out.setCell (Nat.le_refl _) _⟩
      by_cases hb4 : v = 60
      · have HBad : Hid (strP B q0 = none) := by
          show strP B q0 = none
          rw [HP.out, HS.out, HV.out, if_neg h34, if_pos (Or.inr (Or.inr (Or.inr (Or.inl hb4))))]
        go_wp2
        go_ret
        exact ⟨⟨_, rfl⟩, Or.inr ⟨HBad.out, o, by omega, HC1.out.fail⟩, HB1.out.setCell (Nat.le_refl _) _⟩
      by_cases hb5 : v = 62
      · have HBad : Hid (strP B q0 = none) := by
          show strP B q0 = none
          rw [HP.out, HS.out, HV.out, if_neg h34, if_pos (Or.inr (Or.inr (Or.inr (Or.inr (Or.inl hb5)))))]
        go_wp2
        go_ret
        exact ⟨⟨_, rfl⟩, Or.inr ⟨HBad.out, o, by omega, HC1.out.fail⟩, HB1.out.setCell (Nat.le_refl _) _⟩
      by_cases hb6 : v = 38
      · have HBad : Hid (strP B q0 = none) := by
          show strP B q0 = none
          rw [HP.out, HS.out, HV.out, if_neg h34, if_pos (Or.inr (Or.inr (Or.inr (Or.inr (Or.inr hb6)))))]
        go_wp2
        go_ret
        exact ⟨⟨_, rfl⟩, Or.inr ⟨HBad.out, o, by omega, HC1.out.fail⟩, HB1.out.setCell (Nat.le_refl _) _⟩
      have HN : Hid (scan (B.drop o) o = scan (B.drop (o + (k + 1))) (o + (k + 1))) := by
        show scan (B.drop o) o = scan (B.drop (o + (k + 1))) (o + (k + 1))
        rw [HS.out, HV.out, if_neg h34, if_neg (by omega)]
        rfl
      have b3 : (v == 92) = false := by simpa using hb3
      have b4 : (v == 60) = false := by simpa using hb4
      have b5 : (v == 62) = false := by simpa using hb5
      have b6 : (v == 38) = false := by simpa using hb6
      go_wp2
      go_round
      case rel => exact ⟨k + 1, by omega, by go_num, HN.out⟩
      case measure => simp [intOf]; omega
    · obtain rfl : k = n := by omega
      have HBad : Hid (strP B q0 = none) := by
        show strP B q0 = none
        rw [HP.out, hsc, scan_end (by omega)]
      clear hsc h1
      go_wp2
      go_ret
      exact ⟨⟨_, rfl⟩, Or.inr ⟨HBad.out, q, by omega, HC1.out.fail⟩, HB1.out.setCell (Nat.le_refl _) _⟩
end Go.Proofs.Qxb6600744a
