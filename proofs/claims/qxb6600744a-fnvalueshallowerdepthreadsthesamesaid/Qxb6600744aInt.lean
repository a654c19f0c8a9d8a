import Derived.Test.Qxb6600744aStr
namespace Go.Proofs.Qxb6600744a
open Go.ChangeShapes Go.WideShapes Go.ChangeAt Go.RowKit
set_option linter.unusedVariables false

/-- How many digits stand here. -/
def digits : List Int → Nat
  | [] => 0
  | x :: t => if 48 ≤ x ∧ x ≤ 57 then digits t + 1 else 0
def numAt (B : List Int) (p : Nat) : Option Nat := if digits (B.drop p) = 0 ∨ (1 < digits (B.drop p) ∧ B[p]? = some 48) then none else some (p + digits (B.drop p))
def numP (B : List Int) (p : Nat) : Option Nat := numAt B (if true && litB B ⟨#[45]⟩ p then p + 1 else p)
theorem digits_at {B : List Int} {i : Nat} {v : Int} (hv : B[i]? = some v) : digits (B.drop i) = if 48 ≤ v ∧ v ≤ 57 then digits (B.drop (i + 1)) + 1 else 0 := by
  have hl : i < B.length := (List.getElem?_eq_some_iff.1 hv).1
  have e : B.drop i = v :: B.drop (i + 1) := by
    rw [List.drop_eq_getElem_cons hl]
    congr 1
    exact (List.getElem?_eq_some_iff.1 hv).2
  rw [e, digits]
theorem digits_end {B : List Int} {i : Nat} (h : B.length ≤ i) : digits (B.drop i) = 0 := by rw [List.drop_eq_nil_of_le h]; rfl
theorem numP_lt {B : List Int} {p q : Nat} (h : numP B p = some q) : p < q := by
  unfold numP at h
  generalize (true && litB B ⟨#[45]⟩ p) = bb at *
  unfold numAt at h
  by_cases hn : digits (B.drop (if bb = true then p + 1 else p)) = 0 ∨ (1 < digits (B.drop (if bb = true then p + 1 else p)) ∧ B[if bb = true then p + 1 else p]? = some 48)
  · rw [if_pos hn] at h; cases h
  · rw [if_neg hn] at h
    have h := Option.some.inj h
    have : ¬ digits (B.drop (if bb = true then p + 1 else p)) = 0 := fun e => hn (Or.inl e)
    cases bb
    · simp at this h; omega
    · simp at this h; omega

set_option maxRecDepth 20000 in
set_option maxHeartbeats 4000000 in
theorem int_any (w : World) (cb bb : Nat) (B : List Int) (p : Nat) (h : Cur w cb bb B p true) (hB : B.length ≤ 2000000) :
    Calls Try.prog 36 #[Ptr cb] w fun e w' => e = .returned (.tuple #[]) ∧ Res w' cb bb B p (numP B p) ∧ Below cb w w' := by
  have hL := lit_any w cb bb B p true ⟨#[45]⟩ h hB (by decide) (by decide)
  clear h
  go_enter Try.func36, Try.ntmps36
  go_wp2_with fail
  refine hL.mono ?_
  rintro e w1 ⟨rfl, hc1, hb1⟩
  clear hL
  have HP : Hid (numP B p = numAt B (if true && litB B ⟨#[45]⟩ p then p + 1 else p)) := rfl
  have hpq : p ≤ (if true && litB B ⟨#[45]⟩ p then p + 1 else p) := by split <;> omega
  have HC1 : Hid (Cur w1 cb bb B (if true && litB B ⟨#[45]⟩ p then p + 1 else p) true) := hc1
  clear hc1
  generalize (true && litB B ⟨#[45]⟩ p) = lb at *
  generalize (if lb then p + 1 else p) = q at *
  have HB1 : Hid (Below cb w w1) := hb1
  obtain ⟨o, h1, h2, h3, h4, h5⟩ := HC1.out
  have c0 : w1.cell? ⟨cb, 0, none⟩ = some (.slice (some ⟨bb, o, none⟩) (B.length - q) (B.length - q)) := cell_of_block h4 0
  have c1 : w1.cell? ⟨cb, 1, none⟩ = some (.bool true) := cell_of_block h4 1
  have f0 := frozen_of_block h4 0
  have f1 := frozen_of_block h4 1
  have H5 : Hid (w1.heap[bb]? = some (.cells (B.map (Value.int .u8)).toArray 5 (0, 0))) := h5
  have H1 : Hid (q < B.length → o = q) := h1
  clear h4 h5 hb1 h1
  generalize hn : B.length - q = n at *
  have HR : Hid (∀ x k, k ≤ n → (q + k < B.length → x = q + k) → Cur (w1.setCell ⟨cb, 0, none⟩ (.slice (some ⟨bb, x, none⟩) (n - k) (n - k))) cb bb B (q + k) true) := by
    intro x k hk hx
    have := HC1.out.read (q := q + k) (o := x) (by omega) hx
    rwa [Nat.sub_add_eq, hn] at this
  go_wp2
  go_loop [2] (fun t => ∃ k : Nat, k ≤ n ∧ t = .int .i64 k ∧ digits (B.drop q) = k + digits (B.drop (q + k))) (fun t => n - (intOf t).toNat)
  case atStart => exact ⟨0, Nat.zero_le _, rfl, by simp⟩
  case round =>
    obtain ⟨k, hk, rfl, hsc⟩ := hrel
    have HS : Hid _ := hsc
    clear hsc
    by_cases hlt : k < n
    rotate_left
    · obtain rfl : k = n := by omega
      have HD : Hid (digits (B.drop q) = k) := by
        show digits (B.drop q) = k
        rw [HS.out, digits_end (by omega)]; rfl
      clear HS
      by_cases hk0 : k = 0
      · have HBad : Hid (numP B p = none) := by
          show numP B p = none
          rw [HP.out]; unfold numAt; rw [HD.out, if_pos (Or.inl hk0)]
        subst hk0
        go_wp2
        (try simp only [Exit.inBlock, Exit.then])
        refine bodyPost_ret (results_none rfl _ _ _) rfl ?_
        exact ⟨rfl, Or.inr ⟨HBad.out, _, hpq, HC1.out.fail⟩, HB1.out.setCell (Nat.le_refl _) _⟩
      have hkI0 : ¬ (k : Int) = 0 := by omega
      by_cases hk1 : k = 1
      · have HRes : Hid (numP B p = some (q + k)) := by
          show numP B p = some (q + k)
          rw [HP.out]; unfold numAt; rw [HD.out, if_neg (by omega)]
        have hk1I : ¬ (1 : Int) < k := by omega
        have HK1 : Hid (k = 1) := hk1
        clear hk1 hk0
        go_wp2
        go_end0
        have hR := HR.out o k (by omega) (by omega)
        rw [Nat.sub_self] at hR
        exact ⟨rfl, Or.inl ⟨q + k, HRes.out, by omega, hR⟩, HB1.out.setCell (Nat.le_refl _) _⟩
      have hk1I : (1 : Int) < k := by omega
      have hqo : o = q := H1.out (by omega)
      subst hqo
      have hb0 : o < B.length := by omega
      have e0 : B[o]? = some (B[o]'hb0) := List.getElem?_eq_getElem hb0
      generalize B[o]'hb0 = v0 at e0
      have cv0 : w1.cell? ⟨bb, o, none⟩ = some (.int .u8 v0) := byte_cell H5.out e0
      by_cases hv0 : v0 = 48
      · have HBad : Hid (numP B p = none) := by
          show numP B p = none
          rw [HP.out]; unfold numAt; rw [HD.out, if_pos (Or.inr ⟨by omega, by rw [e0, hv0]⟩)]
        clear e0
        go_wp2
        (try simp only [Exit.inBlock, Exit.then])
        refine bodyPost_ret (results_none rfl _ _ _) rfl ?_
        exact ⟨rfl, Or.inr ⟨HBad.out, _, hpq, HC1.out.fail⟩, HB1.out.setCell (Nat.le_refl _) _⟩
      · have HRes : Hid (numP B p = some (o + k)) := by
          show numP B p = some (o + k)
          rw [HP.out]; unfold numAt; rw [HD.out, if_neg (fun hc => hc.elim (fun h => by omega) (fun h => hv0 (Option.some.inj (e0.symm.trans h.2))))]
        have hv0b : (v0 == 48) = false := by simpa using hv0
        have hkb : ((k : Int) == 0) = false := by simpa using hkI0
        clear e0 hk0 hk1
        go_wp2
        go_end0
        have hR := HR.out o k (by omega) (by omega)
        rw [Nat.sub_self] at hR
        exact ⟨rfl, Or.inl ⟨o + k, HRes.out, by omega, hR⟩, HB1.out.setCell (Nat.le_refl _) _⟩
    · obtain rfl : o = q := H1.out (by omega)
      have hb : o + k < B.length := by omega
      have e1 : B[o + k]? = some (B[o + k]'hb) := List.getElem?_eq_getElem hb
      generalize B[o + k]'hb = v at e1
      have cv : w1.cell? ⟨bb, o + k, none⟩ = some (.int .u8 v) := byte_cell H5.out e1
      have hkI : (k : Int) < n := by omega
      have HV : Hid _ := digits_at e1
      clear e1
      by_cases hv1 : v < 48
      · have HD : Hid (digits (B.drop o) = k) := by
          show digits (B.drop o) = k
          rw [HS.out, HV.out, if_neg (by omega)]; rfl
        clear HS HV
        by_cases hk0 : k = 0
        · have HBad : Hid (numP B p = none) := by
            show numP B p = none
            rw [HP.out]; unfold numAt; rw [HD.out, if_pos (Or.inl hk0)]
          subst hk0
          rw [Nat.add_zero] at cv
          have hn0 : (0 : Int) < n := by omega
          go_wp2
          (try simp only [Exit.inBlock, Exit.then])
          refine bodyPost_ret (results_none rfl _ _ _) rfl ?_
          exact ⟨rfl, Or.inr ⟨HBad.out, _, hpq, HC1.out.fail⟩, HB1.out.setCell (Nat.le_refl _) _⟩
        have hkI0 : ¬ (k : Int) = 0 := by omega
        by_cases hk1 : k = 1
        · have HRes : Hid (numP B p = some (o + k)) := by
            show numP B p = some (o + k)
            rw [HP.out]; unfold numAt; rw [HD.out, if_neg (by omega)]
          have hk1I : ¬ (1 : Int) < k := by omega
          have HK1 : Hid (k = 1) := hk1
          clear hk1 hk0
          go_wp2
          go_end0
          exact ⟨rfl, Or.inl ⟨o + k, HRes.out, by omega, HR.out _ k (by omega) (fun _ => rfl)⟩, HB1.out.setCell (Nat.le_refl _) _⟩
        have hk1I : (1 : Int) < k := by omega
        have hb0 : o < B.length := by omega
        have e0 : B[o]? = some (B[o]'hb0) := List.getElem?_eq_getElem hb0
        generalize B[o]'hb0 = v0 at e0
        have cv0 : w1.cell? ⟨bb, o, none⟩ = some (.int .u8 v0) := byte_cell H5.out e0
        by_cases hv0 : v0 = 48
        · have HBad : Hid (numP B p = none) := by
            show numP B p = none
            rw [HP.out]; unfold numAt; rw [HD.out, if_pos (Or.inr ⟨by omega, by rw [e0, hv0]⟩)]
          clear e0
          go_wp2
          (try simp only [Exit.inBlock, Exit.then])
          refine bodyPost_ret (results_none rfl _ _ _) rfl ?_
          exact ⟨rfl, Or.inr ⟨HBad.out, _, hpq, HC1.out.fail⟩, HB1.out.setCell (Nat.le_refl _) _⟩
        · have HRes : Hid (numP B p = some (o + k)) := by
            show numP B p = some (o + k)
            rw [HP.out]; unfold numAt; rw [HD.out, if_neg (fun hc => hc.elim (fun h => by omega) (fun h => hv0 (Option.some.inj (e0.symm.trans h.2))))]
          have hv0b : (v0 == 48) = false := by simpa using hv0
          have hkb : ((k : Int) == 0) = false := by simpa using hkI0
          clear e0 hk0 hk1
          go_wp2
          go_end0
          exact ⟨rfl, Or.inl ⟨o + k, HRes.out, by omega, HR.out _ k (by omega) (fun _ => rfl)⟩, HB1.out.setCell (Nat.le_refl _) _⟩
      by_cases hv2 : 57 < v
      · have HD : Hid (digits (B.drop o) = k) := by
          show digits (B.drop o) = k
          rw [HS.out, HV.out, if_neg (by omega)]; rfl
        clear HS HV
        by_cases hk0 : k = 0
        · have HBad : Hid (numP B p = none) := by
            show numP B p = none
            rw [HP.out]; unfold numAt; rw [HD.out, if_pos (Or.inl hk0)]
          subst hk0
          rw [Nat.add_zero] at cv
          have hn0 : (0 : Int) < n := by omega
          go_wp2
          (try simp only [Exit.inBlock, Exit.then])
          refine bodyPost_ret (results_none rfl _ _ _) rfl ?_
          exact ⟨rfl, Or.inr ⟨HBad.out, _, hpq, HC1.out.fail⟩, HB1.out.setCell (Nat.le_refl _) _⟩
        have hkI0 : ¬ (k : Int) = 0 := by omega
        by_cases hk1 : k = 1
        · have HRes : Hid (numP B p = some (o + k)) := by
            show numP B p = some (o + k)
            rw [HP.out]; unfold numAt; rw [HD.out, if_neg (by omega)]
          have hk1I : ¬ (1 : Int) < k := by omega
          have HK1 : Hid (k = 1) := hk1
          clear hk1 hk0
          go_wp2
          go_end0
          exact ⟨rfl, Or.inl ⟨o + k, HRes.out, by omega, HR.out _ k (by omega) (fun _ => rfl)⟩, HB1.out.setCell (Nat.le_refl _) _⟩
        have hk1I : (1 : Int) < k := by omega
        have hb0 : o < B.length := by omega
        have e0 : B[o]? = some (B[o]'hb0) := List.getElem?_eq_getElem hb0
        generalize B[o]'hb0 = v0 at e0
        have cv0 : w1.cell? ⟨bb, o, none⟩ = some (.int .u8 v0) := byte_cell H5.out e0
        by_cases hv0 : v0 = 48
        · have HBad : Hid (numP B p = none) := by
            show numP B p = none
            rw [HP.out]; unfold numAt; rw [HD.out, if_pos (Or.inr ⟨by omega, by rw [e0, hv0]⟩)]
          clear e0
          go_wp2
          (try simp only [Exit.inBlock, Exit.then])
          refine bodyPost_ret (results_none rfl _ _ _) rfl ?_
          exact ⟨rfl, Or.inr ⟨HBad.out, _, hpq, HC1.out.fail⟩, HB1.out.setCell (Nat.le_refl _) _⟩
        · have HRes : Hid (numP B p = some (o + k)) := by
            show numP B p = some (o + k)
            rw [HP.out]; unfold numAt; rw [HD.out, if_neg (fun hc => hc.elim (fun h => by omega) (fun h => hv0 (Option.some.inj (e0.symm.trans h.2))))]
          have hv0b : (v0 == 48) = false := by simpa using hv0
          have hkb : ((k : Int) == 0) = false := by simpa using hkI0
          clear e0 hk0 hk1
          go_wp2
          go_end0
          exact ⟨rfl, Or.inl ⟨o + k, HRes.out, by omega, HR.out _ k (by omega) (fun _ => rfl)⟩, HB1.out.setCell (Nat.le_refl _) _⟩
      have HN : Hid (digits (B.drop o) = k + 1 + digits (B.drop (o + (k + 1)))) := by
        show digits (B.drop o) = k + 1 + digits (B.drop (o + (k + 1)))
        rw [HS.out, HV.out, if_pos (by omega), Nat.add_assoc o k 1]; omega
      have hv1' : 48 ≤ v := by omega
      have hv2' : v ≤ 57 := by omega
      clear hv1 hv2
      go_wp2
      go_round
      case rel => exact ⟨k + 1, by omega, by go_num, HN.out⟩
      case measure => simp [intOf]; omega
end Go.Proofs.Qxb6600744a
