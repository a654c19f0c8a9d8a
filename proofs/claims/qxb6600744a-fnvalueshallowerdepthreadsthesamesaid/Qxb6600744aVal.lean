import Derived.Test.Qxb6600744aPlain
namespace Go.Proofs.Qxb6600744a
open Go.ChangeShapes Go.WideShapes Go.ChangeAt Go.RowKit
set_option linter.unusedVariables false

/-- The contract of 'value' at fuel f. -/
def ValOk (B : List Int) (cb bb f : Nat) : Prop := ∀ (w : World) (p : Nat) (o : Option Nat) (d : Int), Res w cb bb B p o → (∀ q, o = some q → 2 * (B.length - q) + 2 ≤ f) → -9223372036854775808 ≤ d → d ≤ 32 →
  Calls Try.prog 31 #[Ptr cb, .int .i64 d] w fun e w' => e = .returned (.tuple #[]) ∧ Res w' cb bb B p (o.bind (V B f .val d true)) ∧ Below cb w w'
/-- The loops' state. -/
def LS (B : List Int) (cb bb : Nat) (md : Md) (d : Int) (w : World) (p q f : Nat) (t : Value) (wr : World) : Prop :=
  ∃ (first : Bool) (o : Option Nat) (g : Nat), t = .bool first ∧ Res wr cb bb B q o ∧ Below cb w wr ∧ (∀ r, o = some r → 2 * (B.length - r) + 3 ≤ g ∧ g ≤ f) ∧ V B f md d true q = o.bind (V B g md d first)

theorem Res.some_le {w : World} {cb bb : Nat} {B : List Int} {p s : Nat} {o : Option Nat} (h : Res w cb bb B p o) (ho : o = some s) : p ≤ s ∧ s ≤ B.length := by
  rcases h with ⟨q, h1, h2, h3⟩ | ⟨h1, q, h2, h3⟩
  · rw [ho] at h1; cases h1; exact ⟨h2, h3.le⟩
  · rw [ho] at h1; cases h1
theorem step_measure {w w' : World} {cb bb : Nat} {B : List Int} {r : Nat} {o : Option Nat} (h : Cur w cb bb B r true) (h' : Res w' cb bb B r o) (hlt : ∀ s, o = some s → r < s) : curM w' cb < curM w cb := by
  have e1 := h.measure
  rw [if_pos rfl] at e1
  rcases h' with ⟨q, h1, h2, h3⟩ | ⟨h1, q, h2, h3⟩
  · have e2 := h3.measure
    rw [if_pos rfl] at e2
    have := hlt q h1
    have := h3.le
    omega
  · have e2 := h3.measure
    rw [if_neg (by decide)] at e2
    omega
theorem bind_lt {B : List Int} {g : Nat} {d : Int} {r : Nat} {o : Option Nat} (hle : ∀ s, o = some s → r ≤ s) : ∀ s, o.bind (V B g .val d true) = some s → r < s := by
  intro s hs
  obtain ⟨t, h1, h2⟩ := Option.bind_eq_some_iff.1 hs
  have := hle t h1
  have := V_lt B g _ _ _ _ _ h2
  omega

set_option maxRecDepth 20000 in
set_option maxHeartbeats 8000000 in
theorem value_any (B : List Int) (cb bb : Nat) (hB : B.length ≤ 2000000) : ∀ f, ValOk B cb bb f := by
  intro f
  induction f using Nat.strongRecOn with
  | ind f IH =>
  intro w p o d h hf hd0 hd1
  rcases h with ⟨q, rfl, hpq, hc⟩ | ⟨rfl, q, hpq, hc⟩
  rotate_left
  · have HC : Hid (Cur w cb bb B q false) := hc
    obtain ⟨o, h1, h2, h3, h4, h5⟩ := hc
    have c1 : w.cell? ⟨cb, 1, none⟩ = some (.bool false) := cell_of_block h4 1
    have f1 := frozen_of_block h4 1
    clear h1 h4 h5 hf IH
    go_enter Try.func31, Try.ntmps31
    go_wp2
    (try simp only [Exit.inBlock, Exit.then])
    refine bodyPost_ret (results_none rfl _ _ _) rfl ?_
    exact ⟨rfl, Or.inr ⟨rfl, q, hpq, HC.out.fail⟩, bset _ _ _ _⟩
  have hf' := hf q rfl
  obtain ⟨f, rfl⟩ : ∃ f', f = f' + 1 := ⟨f - 1, by omega⟩
  have HC : Hid (Cur w cb bb B q true) := hc
  obtain ⟨o, h1, h2, h3, h4, h5⟩ := hc
  have c0 : w.cell? ⟨cb, 0, none⟩ = some (.slice (some ⟨bb, o, none⟩) (B.length - q) (B.length - q)) := cell_of_block h4 0
  have c1 : w.cell? ⟨cb, 1, none⟩ = some (.bool true) := cell_of_block h4 1
  have f0 := frozen_of_block h4 0
  have f1 := frozen_of_block h4 1
  have H5 : Hid (w.heap[bb]? = some (.cells (B.map (Value.int .u8)).toArray 5 (0, 0))) := h5
  clear h4 h5 hf
  have HIH : Hid (∀ g, g < f + 1 → ValOk B cb bb g) := IH
  clear IH
  by_cases hq : q < B.length
  rotate_left
  · have HV : Hid ((some q).bind (V B (f + 1) .val d true) = none) := by
      show V B (f + 1) .val d true q = none
      rw [V, List.getElem?_eq_none (by omega)]
    have hn0 : B.length - q = 0 := by omega
    rw [hn0] at c0
    clear h1 hn0
    go_enter Try.func31, Try.ntmps31
    go_wp2
    (try simp only [Exit.inBlock, Exit.then])
    refine bodyPost_ret (results_none rfl _ _ _) rfl ?_
    exact ⟨rfl, Or.inr ⟨HV.out, q, hpq, HC.out.fail⟩, bset _ _ _ _⟩
  obtain rfl : o = q := h1 hq
  clear h1
  have e1 : B[o]? = some (B[o]'hq) := List.getElem?_eq_getElem hq
  generalize B[o]'hq = x at e1
  have cx : w.cell? ⟨bb, o, none⟩ = some (.int .u8 x) := byte_cell H5.out e1
  have HVX : Hid (V B (f + 1) .val d true o = if d = 32 then none else if x = 123 then V B f .obj d true (o + 1) else if x = 91 then V B f .arr d true (o + 1) else if x = 34 then strP B o
      else if x = 116 then needP B ⟨#[116, 114, 117, 101]⟩ o else if x = 102 then needP B ⟨#[102, 97, 108, 115, 101]⟩ o else if x = 110 then needP B ⟨#[110, 117, 108, 108]⟩ o else numP B o) := by
    show V B (f + 1) .val d true o = _
    rw [V, e1]
  clear e1
  have HRD : Hid (∀ x, (o + 1 < B.length → x = o + 1) → Cur (w.setCell ⟨cb, 0, none⟩ (.slice (some ⟨bb, x, none⟩) (B.length - o - 1) (B.length - o - 1))) cb bb B (o + 1) true) := by
    intro x hx
    have := HC.out.read (q := o + 1) (o := x) (by omega) hx
    rwa [Nat.sub_add_eq] at this
  generalize hn : B.length - o = n at *
  have hnz : ¬ n = 0 := by omega
  have hnzI : ¬ (n : Int) = 0 := by omega
  have hn1 : (1 : Int) ≤ n := by omega
  by_cases hd32 : d = 32
  · have HV : Hid ((some o).bind (V B (f + 1) .val d true) = none) := by
      show V B (f + 1) .val d true o = none
      rw [HVX.out, if_pos hd32]
    clear HVX HRD
    go_enter Try.func31, Try.ntmps31
    go_wp2
    (try simp only [Exit.inBlock, Exit.then])
    refine bodyPost_ret (results_none rfl _ _ _) rfl ?_
    exact ⟨rfl, Or.inr ⟨HV.out, o, hpq, HC.out.fail⟩, bset _ _ _ _⟩
  have HVY : Hid (V B (f + 1) .val d true o = if x = 123 then V B f .obj d true (o + 1) else if x = 91 then V B f .arr d true (o + 1) else if x = 34 then strP B o
      else if x = 116 then needP B ⟨#[116, 114, 117, 101]⟩ o else if x = 102 then needP B ⟨#[102, 97, 108, 115, 101]⟩ o else if x = 110 then needP B ⟨#[110, 117, 108, 108]⟩ o else numP B o) := by
    show V B (f + 1) .val d true o = _
    rw [HVX.out, if_neg hd32]
  clear HVX
  have hd31 : d ≤ 31 := by omega
  have hdb : (d == 32) = false := by simpa using hd32
  clear hd32
  by_cases x1 : x = 123
  · have HV : Hid (V B (f + 1) .val d true o = V B f .obj d true (o + 1)) := by
      show V B (f + 1) .val d true o = _
      rw [HVY.out, if_pos x1]
    clear HVY
    subst x1
    go_enter Try.func31, Try.ntmps31
    go_wp2
    all_goals
      generalize hW : World.setCell _ _ _ = w1
      have HC1 : Hid (Cur w1 cb bb B (o + 1) true) := by
        show Cur w1 cb bb B (o + 1) true
        rw [← hW]
        first
          | exact HRD.out (o + 1) (fun _ => rfl)
          | (have hR := HRD.out o (by omega)
             rw [h] at hR
             exact hR)
      have HB1 : Hid (Below cb w w1) := by
        show Below cb w w1
        rw [← hW]; exact bset _ _ _ _
      clear hW HRD c0 c1 f0 f1 cx HC H5 h
      go_loopw [4] (fun t wr => LS B cb bb .obj d w p (o + 1) f t wr) (fun _ wr => curM wr cb)
      case atStart => exact ⟨true, some (o + 1), f, rfl, Or.inl ⟨o + 1, rfl, Nat.le_refl _, HC1.out⟩, HB1.out, fun r hr => by cases hr; omega, rfl⟩
      case round =>
        obtain ⟨first, o', g, rfl, hres, hbel, hfu, hVr⟩ := hrel
        have HBL : Hid (Below cb w wr) := hbel
        have HVr : Hid _ := hVr
        clear hbel hVr HB1 HC1
        rcases hres with ⟨r, rfl, hqr, hcr⟩ | ⟨rfl, r, hqr, hcr⟩
        rotate_left
        · have HCR : Hid (Cur wr cb bb B r false) := hcr
          obtain ⟨o2, k1, k2, k3, k4, k5⟩ := hcr
          have c1 : wr.cell? ⟨cb, 1, none⟩ = some (.bool false) := cell_of_block k4 1
          clear k1 k2 k4 k5 hfu
          go_wp2
          go_end0
          exact ⟨rfl, Or.inr ⟨HV.out.trans HVr.out, r, by omega, HCR.out⟩, HBL.out⟩
        have HCR : Hid (Cur wr cb bb B r true) := hcr
        obtain ⟨hg1, hg2⟩ := hfu r rfl
        obtain ⟨g, rfl⟩ : ∃ g', g = g' + 1 := ⟨g - 1, by omega⟩
        have hL := lit_any wr cb bb B r true ⟨#[125]⟩ hcr hB (by decide) (by decide)
        obtain ⟨o2, k1, k2, k3, k4, k5⟩ := hcr
        have c1 : wr.cell? ⟨cb, 1, none⟩ = some (.bool true) := cell_of_block k4 1
        clear k1 k4 k5 hfu
        by_cases hl : litB B ⟨#[125]⟩ r = true
        · have HVe : Hid (V B f .obj d true (o + 1) = some (r + 1)) := by
            show V B f .obj d true (o + 1) = some (r + 1)
            rw [HVr.out]
            show V B (g + 1) .obj d first r = some (r + 1)
            rw [V, if_pos hl]
          rw [hl] at hL
          clear hl
          go_wp2_with fail
          refine hL.mono ?_
          rintro e w2 ⟨rfl, hc2, hb2⟩
          have HC2 : Hid (Cur w2 cb bb B (r + 1) true) := hc2
          have HB2 : Hid (Below cb w w2) := HBL.out.trans hb2
          clear hL hc2 hb2 c1
          go_wp2
          go_end0
          exact ⟨rfl, Or.inl ⟨r + 1, HV.out.trans HVe.out, by omega, HC2.out⟩, HB2.out⟩
        have hl' : litB B ⟨#[125]⟩ r = false := by simpa using hl
        have HVR0 : Hid (V B f .obj d true (o + 1) = V B (g + 1) .obj d first r) := HVr.out
        rw [hl'] at hL
        go_wp2_with fail
        refine hL.mono ?_
        rintro e w2 ⟨rfl, hc2, hb2⟩
        have HC2 : Hid (Cur w2 cb bb B r true) := hc2
        have HB2 : Hid (Below cb w w2) := HBL.out.trans hb2
        clear hL hc2 hb2 c1 HVr
        cases first with
        | true =>
          have HVR : Hid (V B f .obj d true (o + 1) = ((((some r).bind (strP B)).bind (needP B ⟨#[58]⟩)).bind (V B g .val (d + 1) true)).bind (V B g .obj d false)) := by
            show V B f .obj d true (o + 1) = _
            rw [HVR0.out, V, if_neg hl]
            rfl
          have HR3 : Hid (Res w2 cb bb B r (some r)) := Or.inl ⟨r, rfl, Nat.le_refl _, HC2.out⟩
          have HB3 : Hid (Below cb w w2) := HB2.out
          clear hl hl' HVR0 HC2
          go_wp2_with fail
          refine (str_any w2 cb bb B r _ HR3.out hB).mono ?_
          rintro e w4 ⟨⟨sv, rfl⟩, hr4, hb4⟩
          have HR4 : Hid (Res w4 cb bb B r ((some r).bind (strP B))) := hr4
          have HB4 : Hid (Below cb w w4) := HB3.out.trans hb4
          clear hr4 hb4
          go_wp2_with fail
          refine (need_any w4 cb bb B r _ ⟨#[58]⟩ HR4.out hB (by decide) (by decide)).mono ?_
          rintro e w5 ⟨rfl, hr5, hb5⟩
          have HR5 : Hid (Res w5 cb bb B r (((some r).bind (strP B)).bind (needP B ⟨#[58]⟩))) := hr5
          have HB5 : Hid (Below cb w w5) := HB4.out.trans hb5
          clear hr5 hb5
          go_wp2_with fail
          refine (HIH.out g (by omega) w5 r _ (d + 1) HR5.out (fun s hs => by have := HR5.out.some_le hs; omega) (by omega) (by omega)).mono ?_
          rintro e w6 ⟨rfl, hr6, hb6⟩
          have HR6 : Hid (Res w6 cb bb B r ((((some r).bind (strP B)).bind (needP B ⟨#[58]⟩)).bind (V B g .val (d + 1) true))) := hr6
          have HB6 : Hid (Below cb w w6) := HB5.out.trans hb6
          clear hr6 hb6
          have HLT : Hid (∀ s, (((some r).bind (strP B)).bind (needP B ⟨#[58]⟩)).bind (V B g .val (d + 1) true) = some s → r < s) := bind_lt (fun s hs => (HR5.out.some_le hs).1)
          go_wp2
          go_roundw
          case rel =>
            refine ⟨false, _, g, rfl, HR6.out.rebase hqr, HB6.out, fun s hs => ?_, HVR.out⟩
            have a1 := HLT.out s hs
            have a2 := (HR6.out.some_le hs).2
            omega
          case measure => exact step_measure HCR.out HR6.out HLT.out
        | false =>
          have HVR : Hid (V B f .obj d true (o + 1) = ((((needP B ⟨#[44]⟩ r).bind (strP B)).bind (needP B ⟨#[58]⟩)).bind (V B g .val (d + 1) true)).bind (V B g .obj d false)) := by
            show V B f .obj d true (o + 1) = _
            rw [HVR0.out, V, if_neg hl]
            rfl
          clear hl hl' HVR0
          go_wp2_with fail
          refine (need_any w2 cb bb B r (some r) ⟨#[44]⟩ (Or.inl ⟨r, rfl, Nat.le_refl _, HC2.out⟩) hB (by decide) (by decide)).mono ?_
          rintro e w3 ⟨rfl, hr3, hb3⟩
          have HR3 : Hid (Res w3 cb bb B r (needP B ⟨#[44]⟩ r)) := hr3
          have HB3 : Hid (Below cb w w3) := HB2.out.trans hb3
          clear hr3 hb3 HC2
          go_wp2_with fail
          refine (str_any w3 cb bb B r _ HR3.out hB).mono ?_
          rintro e w4 ⟨⟨sv, rfl⟩, hr4, hb4⟩
          have HR4 : Hid (Res w4 cb bb B r ((needP B ⟨#[44]⟩ r).bind (strP B))) := hr4
          have HB4 : Hid (Below cb w w4) := HB3.out.trans hb4
          clear hr4 hb4
          go_wp2_with fail
          refine (need_any w4 cb bb B r _ ⟨#[58]⟩ HR4.out hB (by decide) (by decide)).mono ?_
          rintro e w5 ⟨rfl, hr5, hb5⟩
          have HR5 : Hid (Res w5 cb bb B r (((needP B ⟨#[44]⟩ r).bind (strP B)).bind (needP B ⟨#[58]⟩))) := hr5
          have HB5 : Hid (Below cb w w5) := HB4.out.trans hb5
          clear hr5 hb5
          go_wp2_with fail
          refine (HIH.out g (by omega) w5 r _ (d + 1) HR5.out (fun s hs => by have := HR5.out.some_le hs; omega) (by omega) (by omega)).mono ?_
          rintro e w6 ⟨rfl, hr6, hb6⟩
          have HR6 : Hid (Res w6 cb bb B r ((((needP B ⟨#[44]⟩ r).bind (strP B)).bind (needP B ⟨#[58]⟩)).bind (V B g .val (d + 1) true))) := hr6
          have HB6 : Hid (Below cb w w6) := HB5.out.trans hb6
          clear hr6 hb6
          have HLT : Hid (∀ s, (((needP B ⟨#[44]⟩ r).bind (strP B)).bind (needP B ⟨#[58]⟩)).bind (V B g .val (d + 1) true) = some s → r < s) := bind_lt (fun s hs => (HR5.out.some_le hs).1)
          go_wp2
          go_roundw
          case rel =>
            refine ⟨false, _, g, rfl, HR6.out.rebase hqr, HB6.out, fun s hs => ?_, HVR.out⟩
            have a1 := HLT.out s hs
            have a2 := (HR6.out.some_le hs).2
            omega
          case measure => exact step_measure HCR.out HR6.out HLT.out
  have b1 : (x == 123) = false := by simpa using x1
  by_cases x2 : x = 91
  · have HV : Hid (V B (f + 1) .val d true o = V B f .arr d true (o + 1)) := by
      show V B (f + 1) .val d true o = _
      rw [HVY.out, if_neg x1, if_pos x2]
    clear HVY b1 x1
    subst x2
    go_enter Try.func31, Try.ntmps31
    go_wp2
    all_goals
      generalize hW : World.setCell _ _ _ = w1
      have HC1 : Hid (Cur w1 cb bb B (o + 1) true) := by
        show Cur w1 cb bb B (o + 1) true
        rw [← hW]
        first
          | exact HRD.out (o + 1) (fun _ => rfl)
          | (have hR := HRD.out o (by omega)
             rw [h] at hR
             exact hR)
      have HB1 : Hid (Below cb w w1) := by
        show Below cb w w1
        rw [← hW]; exact bset _ _ _ _
      clear hW HRD c0 c1 f0 f1 cx HC H5 h
      go_loopw [5] (fun t wr => LS B cb bb .arr d w p (o + 1) f t wr) (fun _ wr => curM wr cb)
      case atStart => exact ⟨true, some (o + 1), f, rfl, Or.inl ⟨o + 1, rfl, Nat.le_refl _, HC1.out⟩, HB1.out, fun r hr => by cases hr; omega, rfl⟩
      case round =>
        obtain ⟨first, o', g, rfl, hres, hbel, hfu, hVr⟩ := hrel
        have HBL : Hid (Below cb w wr) := hbel
        have HVr : Hid _ := hVr
        clear hbel hVr HB1 HC1
        rcases hres with ⟨r, rfl, hqr, hcr⟩ | ⟨rfl, r, hqr, hcr⟩
        rotate_left
        · have HCR : Hid (Cur wr cb bb B r false) := hcr
          obtain ⟨o2, k1, k2, k3, k4, k5⟩ := hcr
          have c1 : wr.cell? ⟨cb, 1, none⟩ = some (.bool false) := cell_of_block k4 1
          clear k1 k2 k4 k5 hfu
          go_wp2
          go_end0
          exact ⟨rfl, Or.inr ⟨HV.out.trans HVr.out, r, by omega, HCR.out⟩, HBL.out⟩
        have HCR : Hid (Cur wr cb bb B r true) := hcr
        obtain ⟨hg1, hg2⟩ := hfu r rfl
        obtain ⟨g, rfl⟩ : ∃ g', g = g' + 1 := ⟨g - 1, by omega⟩
        have hL := lit_any wr cb bb B r true ⟨#[93]⟩ hcr hB (by decide) (by decide)
        obtain ⟨o2, k1, k2, k3, k4, k5⟩ := hcr
        have c1 : wr.cell? ⟨cb, 1, none⟩ = some (.bool true) := cell_of_block k4 1
        clear k1 k4 k5 hfu
        by_cases hl : litB B ⟨#[93]⟩ r = true
        · have HVe : Hid (V B f .arr d true (o + 1) = some (r + 1)) := by
            show V B f .arr d true (o + 1) = some (r + 1)
            rw [HVr.out]
            show V B (g + 1) .arr d first r = some (r + 1)
            rw [V, if_pos hl]
          rw [hl] at hL
          clear hl
          go_wp2_with fail
          refine hL.mono ?_
          rintro e w2 ⟨rfl, hc2, hb2⟩
          have HC2 : Hid (Cur w2 cb bb B (r + 1) true) := hc2
          have HB2 : Hid (Below cb w w2) := HBL.out.trans hb2
          clear hL hc2 hb2 c1
          go_wp2
          go_end0
          exact ⟨rfl, Or.inl ⟨r + 1, HV.out.trans HVe.out, by omega, HC2.out⟩, HB2.out⟩
        have hl' : litB B ⟨#[93]⟩ r = false := by simpa using hl
        have HVR0 : Hid (V B f .arr d true (o + 1) = V B (g + 1) .arr d first r) := HVr.out
        rw [hl'] at hL
        go_wp2_with fail
        refine hL.mono ?_
        rintro e w2 ⟨rfl, hc2, hb2⟩
        have HC2 : Hid (Cur w2 cb bb B r true) := hc2
        have HB2 : Hid (Below cb w w2) := HBL.out.trans hb2
        clear hL hc2 hb2 c1 HVr
        cases first with
        | true =>
          have HVR : Hid (V B f .arr d true (o + 1) = ((some r).bind (V B g .val (d + 1) true)).bind (V B g .arr d false)) := by
            show V B f .arr d true (o + 1) = _
            rw [HVR0.out, V, if_neg hl]
            rfl
          have HR3 : Hid (Res w2 cb bb B r (some r)) := Or.inl ⟨r, rfl, Nat.le_refl _, HC2.out⟩
          have HB3 : Hid (Below cb w w2) := HB2.out
          clear hl hl' HVR0 HC2
          have HR5 : Hid (Res w2 cb bb B r (some r)) := HR3.out
          have HB5 : Hid (Below cb w w2) := HB3.out
          go_wp2_with fail
          refine (HIH.out g (by omega) w2 r _ (d + 1) HR5.out (fun s hs => by have := HR5.out.some_le hs; omega) (by omega) (by omega)).mono ?_
          rintro e w6 ⟨rfl, hr6, hb6⟩
          have HR6 : Hid (Res w6 cb bb B r ((some r).bind (V B g .val (d + 1) true))) := hr6
          have HB6 : Hid (Below cb w w6) := HB5.out.trans hb6
          clear hr6 hb6
          have HLT : Hid (∀ s, (some r).bind (V B g .val (d + 1) true) = some s → r < s) := bind_lt (fun s hs => (HR5.out.some_le hs).1)
          go_wp2
          go_roundw
          case rel =>
            refine ⟨false, _, g, rfl, HR6.out.rebase hqr, HB6.out, fun s hs => ?_, HVR.out⟩
            have a1 := HLT.out s hs
            have a2 := (HR6.out.some_le hs).2
            omega
          case measure => exact step_measure HCR.out HR6.out HLT.out
        | false =>
          have HVR : Hid (V B f .arr d true (o + 1) = ((needP B ⟨#[44]⟩ r).bind (V B g .val (d + 1) true)).bind (V B g .arr d false)) := by
            show V B f .arr d true (o + 1) = _
            rw [HVR0.out, V, if_neg hl]
            rfl
          clear hl hl' HVR0
          go_wp2_with fail
          refine (need_any w2 cb bb B r (some r) ⟨#[44]⟩ (Or.inl ⟨r, rfl, Nat.le_refl _, HC2.out⟩) hB (by decide) (by decide)).mono ?_
          rintro e w3 ⟨rfl, hr3, hb3⟩
          have HR3 : Hid (Res w3 cb bb B r (needP B ⟨#[44]⟩ r)) := hr3
          have HB3 : Hid (Below cb w w3) := HB2.out.trans hb3
          clear hr3 hb3 HC2
          have HR5 : Hid (Res w3 cb bb B r (needP B ⟨#[44]⟩ r)) := HR3.out
          have HB5 : Hid (Below cb w w3) := HB3.out
          go_wp2_with fail
          refine (HIH.out g (by omega) w3 r _ (d + 1) HR5.out (fun s hs => by have := HR5.out.some_le hs; omega) (by omega) (by omega)).mono ?_
          rintro e w6 ⟨rfl, hr6, hb6⟩
          have HR6 : Hid (Res w6 cb bb B r ((needP B ⟨#[44]⟩ r).bind (V B g .val (d + 1) true))) := hr6
          have HB6 : Hid (Below cb w w6) := HB5.out.trans hb6
          clear hr6 hb6
          have HLT : Hid (∀ s, (needP B ⟨#[44]⟩ r).bind (V B g .val (d + 1) true) = some s → r < s) := bind_lt (fun s hs => (HR5.out.some_le hs).1)
          go_wp2
          go_roundw
          case rel =>
            refine ⟨false, _, g, rfl, HR6.out.rebase hqr, HB6.out, fun s hs => ?_, HVR.out⟩
            have a1 := HLT.out s hs
            have a2 := (HR6.out.some_le hs).2
            omega
          case measure => exact step_measure HCR.out HR6.out HLT.out
  have b2 : (x == 91) = false := by simpa using x2
  clear HRD
  have HR0 : Hid (Res w cb bb B p (some o)) := Or.inl ⟨o, rfl, hpq, HC.out⟩
  by_cases x3 : x = 34
  · have HV : Hid ((some o).bind (V B (f + 1) .val d true) = (some o).bind (strP B)) := by
      show V B (f + 1) .val d true o = strP B o
      rw [HVY.out, if_neg x1, if_neg x2, if_pos x3]
    clear HVY x1 x2
    subst x3
    go_enter Try.func31, Try.ntmps31
    go_wp2_with fail
    refine (str_any w cb bb B p (some o) HR0.out hB).mono ?_
    rintro e w4 ⟨⟨sv, rfl⟩, hr4, hb4⟩
    rw [← HV.out] at hr4
    have HR4 : Hid (Res w4 cb bb B p ((some o).bind (V B (f + 1) .val d true))) := hr4
    clear hr4 HV
    go_wp2
    go_end0
    exact ⟨rfl, HR4.out, hb4⟩
  have cx3 : (x == 34) = false := by simpa using x3
  by_cases x4 : x = 116
  · have HV : Hid ((some o).bind (V B (f + 1) .val d true) = (some o).bind (needP B ⟨#[116, 114, 117, 101]⟩)) := by
      show V B (f + 1) .val d true o = needP B ⟨#[116, 114, 117, 101]⟩ o
      rw [HVY.out, if_neg x1, if_neg x2, if_neg x3, if_pos x4]
    clear HVY x1 x2
    subst x4
    go_enter Try.func31, Try.ntmps31
    go_wp2_with fail
    refine (need_any w cb bb B p (some o) ⟨#[116, 114, 117, 101]⟩ HR0.out hB (by decide) (by decide)).mono ?_
    rintro e w4 ⟨rfl, hr4, hb4⟩
    rw [← HV.out] at hr4
    have HR4 : Hid (Res w4 cb bb B p ((some o).bind (V B (f + 1) .val d true))) := hr4
    clear hr4 HV
    go_wp2
    go_end0
    exact ⟨rfl, HR4.out, hb4⟩
  have cx4 : (x == 116) = false := by simpa using x4
  by_cases x5 : x = 102
  · have HV : Hid ((some o).bind (V B (f + 1) .val d true) = (some o).bind (needP B ⟨#[102, 97, 108, 115, 101]⟩)) := by
      show V B (f + 1) .val d true o = needP B ⟨#[102, 97, 108, 115, 101]⟩ o
      rw [HVY.out, if_neg x1, if_neg x2, if_neg x3, if_neg x4, if_pos x5]
    clear HVY x1 x2
    subst x5
    go_enter Try.func31, Try.ntmps31
    go_wp2_with fail
    refine (need_any w cb bb B p (some o) ⟨#[102, 97, 108, 115, 101]⟩ HR0.out hB (by decide) (by decide)).mono ?_
    rintro e w4 ⟨rfl, hr4, hb4⟩
    rw [← HV.out] at hr4
    have HR4 : Hid (Res w4 cb bb B p ((some o).bind (V B (f + 1) .val d true))) := hr4
    clear hr4 HV
    go_wp2
    go_end0
    exact ⟨rfl, HR4.out, hb4⟩
  have cx5 : (x == 102) = false := by simpa using x5
  by_cases x6 : x = 110
  · have HV : Hid ((some o).bind (V B (f + 1) .val d true) = (some o).bind (needP B ⟨#[110, 117, 108, 108]⟩)) := by
      show V B (f + 1) .val d true o = needP B ⟨#[110, 117, 108, 108]⟩ o
      rw [HVY.out, if_neg x1, if_neg x2, if_neg x3, if_neg x4, if_neg x5, if_pos x6]
    clear HVY x1 x2
    subst x6
    go_enter Try.func31, Try.ntmps31
    go_wp2_with fail
    refine (need_any w cb bb B p (some o) ⟨#[110, 117, 108, 108]⟩ HR0.out hB (by decide) (by decide)).mono ?_
    rintro e w4 ⟨rfl, hr4, hb4⟩
    rw [← HV.out] at hr4
    have HR4 : Hid (Res w4 cb bb B p ((some o).bind (V B (f + 1) .val d true))) := hr4
    clear hr4 HV
    go_wp2
    go_end0
    exact ⟨rfl, HR4.out, hb4⟩
  have cx6 : (x == 110) = false := by simpa using x6
  have HV : Hid (V B (f + 1) .val d true o = numP B o) := by
    show V B (f + 1) .val d true o = numP B o
    rw [HVY.out, if_neg x1, if_neg x2, if_neg x3, if_neg x4, if_neg x5, if_neg x6]
  clear HVY x1 x2 x3 x4 x5 x6
  go_enter Try.func31, Try.ntmps31
  go_wp2_with fail
  refine (int_any w cb bb B o HC.out hB).mono ?_
  rintro e w4 ⟨rfl, hr4, hb4⟩
  rw [← HV.out] at hr4
  have HR4 : Hid (Res w4 cb bb B p ((some o).bind (V B (f + 1) .val d true))) := hr4.rebase hpq
  clear hr4 HV
  go_wp2
  go_end0
  exact ⟨rfl, HR4.out, hb4⟩
end Go.Proofs.Qxb6600744a
