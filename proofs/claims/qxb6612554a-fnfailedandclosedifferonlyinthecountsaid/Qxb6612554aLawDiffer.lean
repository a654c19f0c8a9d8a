import Derived.Test.Qxb6612554aEnds
import Derived.Test.Qxb6612554aRecEq
import Derived.Deep.QuietTactic
import Derived.BigQuiet
namespace Go.Proofs.Qxb6612554a
open Go.ChangeShapes Go.WideShapes Go.ChangeAt Go.RowKit
set_option linter.unusedVariables false

/-- What the first great comparison reads. -/
abbrev QS (lb b o i : Nat) (r : Rec) (now : Int) (w' : World) : Prop := w'.rangeAt lb 0 (kl i) ∧ w'.cell? ⟨lb, 32, none⟩ = some (.int .i64 (IntKind.i64.wrap (r.f + 1))) ∧ w'.cell? ⟨lb, 33, none⟩ = some (.int .i64 now) ∧ w'.cell? ⟨lb, 34, none⟩ = some (.int .i64 now) ∧ w'.cell? ⟨lb, 35, none⟩ = some (.int .i64 (wrap64 (r.fl - 1))) ∧
  w'.cell? ⟨b, o, none⟩ = some (.int .i64 r.f) ∧ w'.cell? ⟨b, o + 1, none⟩ = some (.int .i64 r.lf) ∧ w'.cell? ⟨b, o + 3, none⟩ = some (.int .i64 r.fl)
/-- What the last great comparison reads. -/
abbrev ZS (lb cb b o i : Nat) (r : Rec) (now : Int) (w' : World) : Prop := w'.rangeAt cb 0 (kl i) ∧ w'.cell? ⟨cb, 32, none⟩ = some (.int .i64 r.f) ∧ w'.cell? ⟨cb, 33, none⟩ = some (.int .i64 r.lf) ∧ w'.cell? ⟨cb, 34, none⟩ = some (.int .i64 now) ∧ w'.cell? ⟨cb, 35, none⟩ = some (.int .i64 (wrap64 (r.fl - 1))) ∧
  w'.rangeAt lb 0 (kl i) ∧ w'.cell? ⟨lb, 32, none⟩ = some (.int .i64 (IntKind.i64.wrap (r.f + 1))) ∧ w'.cell? ⟨lb, 33, none⟩ = some (.int .i64 now) ∧ w'.cell? ⟨lb, 34, none⟩ = some (.int .i64 now) ∧ w'.cell? ⟨lb, 35, none⟩ = some (.int .i64 (wrap64 (r.fl - 1))) ∧
  w'.cell? ⟨b, o, none⟩ = some (.int .i64 r.f) ∧ w'.cell? ⟨b, o + 1, none⟩ = some (.int .i64 r.lf) ∧ w'.cell? ⟨b, o + 3, none⟩ = some (.int .i64 r.fl)
theorem QS.step {lb b o i : Nat} {r : Rec} {now : Int} {w1 w2 : World} (h : QS lb b o i r now w1) (hb : Below w1.heap.size w1 w2) : QS lb b o i r now w2 :=
  ⟨range_later hb h.1, cell_later hb h.2.1, cell_later hb h.2.2.1, cell_later hb h.2.2.2.1, cell_later hb h.2.2.2.2.1, cell_later hb h.2.2.2.2.2.1, cell_later hb h.2.2.2.2.2.2.1, cell_later hb h.2.2.2.2.2.2.2⟩

/-- The load of a record, shut. -/
def ld51 (v : Value) : Sem Next := execOp (fun _ => v) ⟨none, .load 51 (.tmp 0), 51, "", #[], none⟩
theorem exec_load51 (ev : Operand → Value) (dst : Option Tmp) (x : Operand) (ty : TypeId) (pos : String) (after : Array Edge) (g : Option (Nat × Bool)) (w : World) :
    (execOp ev ⟨dst, .load 51 x, ty, pos, after, g⟩).run Try.prog w = (ld51 (ev x)).run Try.prog w := rfl
theorem ld51_run {w : World} {g o : Nat} {cs : List Value} (hr : w.rangeAt g o cs) (hl : cs.length = 36) : (ld51 (.pointer (some ⟨g, o, none⟩))).run Try.prog w = .ok (.value (.agg cs.toArray)) w := by
  have := run_loadVar_mid (P := Try.prog) w g o 51 cs _ hr Try.underlying51 rfl (by rw [hl]; exact size51)
  unfold ld51
  simp [execOp, Instr.loadAt, Instr.sureAddr, this]

/-- The load of a key, shut. -/
def ld49 (v : Value) : Sem Next := execOp (fun _ => v) ⟨none, .load 49 (.tmp 0), 49, "", #[], none⟩
theorem exec_load49 (ev : Operand → Value) (dst : Option Tmp) (x : Operand) (ty : TypeId) (pos : String) (after : Array Edge) (g : Option (Nat × Bool)) (w : World) :
    (execOp ev ⟨dst, .load 49 x, ty, pos, after, g⟩).run Try.prog w = (ld49 (ev x)).run Try.prog w := rfl
theorem ld49_run {w : World} {g o : Nat} {cs : List Value} (hr : w.rangeAt g o cs) (hl : cs.length = 32) : (ld49 (.pointer (some ⟨g, o, none⟩))).run Try.prog w = .ok (.value (.agg cs.toArray)) w := by
  have := run_loadVar_mid (P := Try.prog) w g o 49 cs _ hr Try.underlying49 rfl (by rw [hl]; exact size49)
  unfold ld49
  simp [execOp, Instr.loadAt, Instr.sureAddr, this]

theorem below_drewN {B : Nat} {a w : World} (h : Below B a w) (n : Nat) : Below B a (w.drewN n) := ⟨h.os, h.tape, h.output, h.size, h.block⟩

theorem get_both {D D' : LD} {R : Nat → Rec} {n i g1 g2 : Nat} {w9 wv : World} {r cr fr : Rec} (hi : i < n) (h1 : RowOk g1 n (D.put i fr).fd ((List.range n).erase i ++ [i]) w9) (h2 : RowOk g2 n (D'.put i cr).fd (closedOrd r i (List.range n)) w9)
    (hF : ∀ j, j < n → D.fd j = R j) (hF' : ∀ j, j < n → D'.fd j = R j) (hok : ∀ j, j < n → (R j).ok) (hb : Below w9.heap.size w9 wv) :
    ∀ k, k + 1 < n → ∃ j, wv.rangeAt g1 (k * 36) (recC j (R j)) ∧ wv.rangeAt g2 (k * 36) (recC j (R j)) ∧ j < n ∧ (R j).ok := by
  intro k hk
  have hlen : k < (butI n i).length := by rw [butI_length hi]; omega
  obtain ⟨j, hj⟩ : ∃ j, (butI n i)[k]? = some j := ⟨_, List.getElem?_eq_getElem hlen⟩
  have hjm := butI_mem (List.mem_of_getElem? hj)
  have e1 : ((List.range n).erase i ++ [i])[k]? = some j := by
    rw [show (List.range n).erase i = butI n i from rfl, List.getElem?_append_left hlen]; exact hj
  have e2 : (closedOrd r i (List.range n))[k]? = some j := by
    unfold closedOrd
    by_cases hc : idle r
    · rw [if_pos hc]; exact hj
    · rw [if_neg hc]; exact e1
  have g1' := h1.get e1
  have g2' := h2.get e2
  rw [put_far _ _ hjm.2, hF j hjm.1] at g1'
  rw [put_far _ _ hjm.2, hF' j hjm.1] at g2'
  exact ⟨j, range_later hb g1', range_later hb g2', hjm.1, hok j hjm.1⟩

attribute [local go_sem ↓] exec_load51 exec_load49
set_option maxRecDepth 20000 in
set_option maxHeartbeats 6400000 in
theorem differ_law (w : World) (a0 : Option Addr) (n c0 : Nat) (z now : Int) (R : Nat → Rec) (hn : n ≤ maxLen) (hnow : In64 now) (h0 : EsV w a0 n R) (hok : ∀ i, i < n → (R i).ok) :
    Calls Try.prog 8 #[.slice a0 n c0, .int .i64 z, .int .i64 now] w fun e w' => e = .returned (.bool true) ∧ Below w.heap.size w w' := by
  have hZ := zzBytes29 w a0 n c0 z now hn
  unfold maxLen at hn
  go_enter Try.func8, Try.ntmps8
  go_wp2_with fail
  refine hZ.mono ?_
  rintro e w' ⟨he, rfl⟩
  clear hZ
  rcases he with rfl | rfl
  rotate_left
  · go_wp2
    go_ret
    exact ⟨rfl, Below.refl _ _⟩
  by_cases hn1 : n ≤ 16384
  rotate_left
  · go_wp2
    go_ret
    exact ⟨rfl, Below.refl _ _⟩
  by_cases hz0 : z < 0
  · go_wp2
    go_ret
    exact ⟨rfl, Below.refl _ _⟩
  by_cases hz1 : z < n
  rotate_left
  · go_wp2
    go_ret
    exact ⟨rfl, Below.refl _ _⟩
  obtain ⟨i, rfl⟩ := Int.eq_ofNat_of_zero_le (show 0 ≤ z by omega)
  have hi : i < n := by omega
  have hRe := reachable_any w' a0 n c0 R hn1 h0
  go_wp2_with fail
  refine hRe.mono ?_
  clear hRe
  intro e w1 hpost
  rcases hpost with ⟨rfl, hreach, rfl⟩ | ⟨rfl, rfl⟩
  rotate_left
  · go_wp2
    go_ret
    exact ⟨rfl, Below.refl _ _⟩
  obtain ⟨b, off, rfl, hes⟩ := h0 (by omega)
  obtain ⟨e0, e1, e2, e3⟩ := hes i hi
  by_cases hfl : (R i).fl < 1
  · go_wp2
    go_ret
    exact ⟨rfl, Below.refl _ _⟩
  have hBu := build_any w1 (some ⟨b, off, none⟩) n c0 R now hn1 hnow (fun _ => ⟨b, off, rfl, hes⟩) hok
  have HES : Hid (EsAt w1 b off n R) := hes
  have HOK : Hid _ := hok
  have HRR : Hid _ := hreach
  have HFL : Hid _ := hfl
  clear h0 hes hok hreach
  go_wp2_with fail
  refine hBu.mono ?_
  rintro e w2 ⟨D, g, rfl, hbs⟩
  clear hBu
  have hel := els_cell hbs.row hi
  have hAt := ZZAttempt_lim hbs.lim i
  have HBS : Hid _ := hbs
  clear hbs e0 e1 e2 e3
  go_wp2_with fail
  refine hAt.mono ?_
  rintro e w3 ⟨rfl, hA3, hb3⟩
  clear hAt hel
  have hmu := HBS.out.dnow.2
  have hdi : D.fd i = R i := HBS.out.dfd i hi
  have hFa := Failed_lim (HBS.out.lim.below hb3) hmu hA3 (i := i) (by simpa using hi) (by rw [hdi]; exact (HRR.out i hi).1)
  rw [hdi, HBS.out.dnow.1] at hFa
  have HB3 : Hid _ := hb3
  clear hA3 hb3
  generalize hba : w2.heap.size = ba at *
  go_wp2_with fail
  refine hFa.mono ?_
  rintro e w4 ⟨rfl, hL4, -, hF4⟩
  clear hFa
  have hbw4 : Below w1.heap.size w1 w4 := by
    have h1 := HBS.out.bel
    have h2 : Below w1.heap.size w2 w3 := by have := HB3.out; rw [← hba] at this; exact this.mono h1.size
    have h3 : Below w1.heap.size w3 w4 := end_below ((HBS.out.lim).below (by have := HB3.out; rw [← hba] at this; exact this)) HBS.out.dB (by rw [← hba]; exact h1.size) hF4
    exact (h1.trans h2).trans h3
  have HL4 : Hid _ := hL4
  have HB4 : Hid _ := hbw4
  clear hL4 hF4 hbw4 HB3 hmu hdi hba
  have hBu := build_any w4 (some ⟨b, off, none⟩) n c0 R now hn1 hnow (EsV.later (fun _ => ⟨b, off, rfl, HES.out⟩) HB4.out) HOK.out
  go_wp2_with fail
  refine hBu.mono ?_
  rintro e w5 ⟨D', g', rfl, hbs'⟩
  clear hBu
  have hel := els_cell hbs'.row hi
  have hAt := ZZAttempt_lim hbs'.lim i
  have HBS' : Hid _ := hbs'
  clear hbs'
  go_wp2_with fail
  refine hAt.mono ?_
  rintro e w6 ⟨rfl, hA6, hb6⟩
  clear hAt hel
  have hmu := HBS'.out.dnow.2
  have hdi : D'.fd i = R i := HBS'.out.dfd i hi
  have hCl := Close_lim (HBS'.out.lim.below hb6) hmu hA6 (i := i) (by simpa using hi)
  rw [hdi, HBS'.out.dnow.1] at hCl
  have HB6 : Hid _ := hb6
  clear hA6 hb6
  generalize hba : w5.heap.size = ba' at *
  go_wp2_with fail
  refine hCl.mono ?_
  rintro e w7 ⟨rfl, hL7, -, hF7⟩
  clear hCl
  have hbw7 : Below w4.heap.size w4 w7 := by
    have h1 := HBS'.out.bel
    have h2 : Below w4.heap.size w5 w6 := by have := HB6.out; rw [← hba] at this; exact this.mono h1.size
    have h3 : Below w4.heap.size w6 w7 := end_below ((HBS'.out.lim).below (by have := HB6.out; rw [← hba] at this; exact this)) HBS'.out.dB (by rw [← hba]; exact h1.size) hF7
    exact (h1.trans h2).trans h3
  have hS1 := snapshot_any (HL4.out.below hbw7) n (by
    rw [List.length_append, show (List.range n).erase i = butI n i from rfl, butI_length hi]; simp; omega) (by omega)
  have HFD : Hid (∀ j, j < n → D.fd j = R j) := HBS.out.dfd
  have HFD' : Hid (∀ j, j < n → D'.fd j = R j) := HBS'.out.dfd
  have HB7 : Hid (Below w1.heap.size w1 w7) := HB4.out.trans (hbw7.mono HB4.out.size)
  have HL7 : Hid _ := hL7
  clear HL4 HB4 HBS HBS' HB6 hmu hdi hba hF7 hL7 hbw7
  have hlf : ((List.range n).erase i ++ [i]).length = n := by
    rw [List.length_append, show (List.range n).erase i = butI n i from rfl, butI_length hi]; simp; omega
  rw [hlf] at hS1
  clear hlf
  go_wp2_with fail
  refine hS1.mono ?_
  rintro e w8 ⟨rfl, hrow1, hb8⟩
  clear hS1
  have hS2 := snapshot_any (HL7.out.below hb8) n (by
    unfold closedOrd
    split
    · rw [show (List.range n).erase i = butI n i from rfl, butI_length hi]; omega
    · rw [List.length_append, show (List.range n).erase i = butI n i from rfl, butI_length hi]; simp; omega) (by omega)
  have HRow1 : Hid _ := hrow1
  have HB8 : Hid (Below w1.heap.size w1 w8) := HB7.out.trans (hb8.mono HB7.out.size)
  have HG1 : Hid (w7.heap.size < w8.heap.size) := by obtain ⟨Z, hz, _⟩ := hrow1; exact lt_of_heap hz
  clear HB7 HL7 hrow1 hb8
  generalize w7.heap.size = g1 at *
  go_wp2_with fail
  refine hS2.mono ?_
  rintro e w9 ⟨rfl, hrow2, hb9⟩
  clear hS2
  have HRow2 : Hid (RowOk w8.heap.size n (D'.put i (closedRec (R i) now)).fd (closedOrd (R i) i (List.range n)) w9) := hrow2
  have HRow1' : Hid (RowOk g1 n (D.put i (failedRec (R i) now)).fd ((List.range n).erase i ++ [i]) w9) := RowOk.later HRow1.out hb9
  have HB9 : Hid (Below w1.heap.size w1 w9) := HB8.out.trans (hb9.mono HB8.out.size)
  have HG2 : Hid (w8.heap.size < w9.heap.size) := by obtain ⟨Z, hz, _⟩ := hrow2; exact lt_of_heap hz
  clear HRow1 HB8 hrow2 hb9
  generalize w8.heap.size = g2 at *
  have HR1 : Hid (w9.rangeAt g1 ((n - 1) * 36) (recC i (failedRec (R i) now))) := by
    have := RowOk.get HRow1'.out (k := n - 1) (i := i) (by
      rw [show (List.range n).erase i = butI n i from rfl, List.getElem?_append_right (by rw [butI_length hi]; omega), butI_length hi]
      simp)
    rw [put_at] at this
    exact this
  have HE := HES.out i hi
  have e0 := cell_later HB9.out HE.1
  have e1 := cell_later HB9.out HE.2.1
  have e3 := cell_later HB9.out HE.2.2.2
  clear HE
  generalize hlc : (closedOrd (R i) i (List.range n)).length = lc at *
  have HLC : Hid _ := hlc
  clear hlc
  generalize hfr : failedRec (R i) now = fr at *
  have HFR : Hid (failedRec (R i) now = fr) := hfr
  clear hfr
  generalize hri : R i = r at *
  have HRI : Hid (R i = r) := hri
  clear hri
  have hnI : ((n : Int) - 1).toNat = n - 1 := by omega
  go_wp2_with (first
    | (refine wpList_load_mid (by rfl) 51 (.tmp 110) (by rfl) g1 ((n - 1) * 36) (by rfl) (recC i fr) _ HR1.out Try.underlying51 rfl (by rw [recC_length]; exact size51) ?_)
    | (refine wpList_store_fresh51 (cs := recC i fr) (by rfl) (.tmp 18) (.tmp 111) (by rfl) (by rfl) w9.heap.size (by rfl) (by rfl) (by rfl) (by rfl) (recC_length _ _) (recC_one _ _) ?_; intro W2 hb2 hr2 hs2; have HR2 : Hid _ := hr2; clear hr2))
  have HQ : Hid (QS w9.heap.size b (off + i * 4) i r now W2.drew) := by
    have hfr : fr = ⟨wrap64 (r.f + 1), now, now, wrap64 (r.fl - 1)⟩ := by rw [← HFR.out]; rfl
    have hg : ∀ t v, (recC i fr)[t]? = some v → W2.drew.cell? ⟨w9.heap.size, t, none⟩ = some v := fun t v hv => by
      have := HR2.out t v hv
      rwa [Nat.zero_add] at this
    refine ⟨fun t v hv => ?_, hg 32 _ (rec_get i fr 0 _ (by rw [hfr, IntWalk.i64_left]; rfl)), hg 33 _ (rec_get i fr 1 _ (by rw [hfr]; rfl)), hg 34 _ (rec_get i fr 2 _ (by rw [hfr]; rfl)), hg 35 _ (rec_get i fr 3 _ (by rw [hfr]; rfl)), cell_later hb2.drew e0, cell_later hb2.drew e1, cell_later hb2.drew e3⟩
    rw [Nat.zero_add]
    refine hg t v ?_
    unfold recC
    rw [List.getElem?_append_left (List.getElem?_eq_some_iff.1 hv).1]
    exact hv
  have HB2 : Hid (Below w9.heap.size w9 W2.drew) := hb2.drew
  have hnq := neq49_same i
  clear hb2 hs2 HR2 e0 e1 e3 HR1
  generalize hlb : w9.heap.size = lb at HQ ⊢
  clear hlb
  have hu := Try.underlying49
  have hi49 : (Try.prog.info? 49).map (·.size) = some (kl i).length := by rw [kl_length]; exact size49
  have hl32 := kl_length i
  have h1c := kl_one i
  go_region_held3 (QS lb b (off + i * 4) i r now)
    (first | exact HQ.out | assumption | exact QS.step hHa hb3)
    (first | (go_at_call 31; have hHa := ‹World.rangeAt _ _ _ _ ∧ _›; refine (keyOf_any i (by omega) _).mono ?_; rintro e w3 ⟨rfl, hb3⟩))
  have HW : Hid (Below w9.heap.size w9 w3) := HB2.out.trans (hb3.mono HB2.out.size)
  clear hHa
  rename World.rangeAt _ _ _ _ ∧ _ => hQ3
  have HQ3 : Hid (QS lb b (off + i * 4) i r now w3) := hQ3
  have q0 := hQ3.2.2.2.2.2.1
  have q3 := hQ3.2.2.2.2.2.2.2
  clear hQ3 HQ hb3 HB2 hu hi49 hl32 h1c hnq
  obtain ⟨wv, rfl⟩ : ∃ wv, wv = w3 := ⟨w3, rfl⟩
  have hrok : r.ok := by have := HOK.out i hi; rw [HRI.out] at this; exact this
  have hfl64 := hrok.2.2.2
  unfold In64 at hfl64
  have HBV : Hid (Below w1.heap.size w1 wv) := HB9.out.trans (HW.out.mono HB9.out.size)
  have HGet : Hid (∀ k, k + 1 < n → ∃ j, wv.rangeAt g1 (k * 36) (recC j (R j)) ∧ wv.rangeAt g2 (k * 36) (recC j (R j)) ∧ j < n ∧ (R j).ok) := get_both hi HRow1'.out HRow2.out HFD.out HFD'.out HOK.out HW.out
  by_cases hid : idle r
  · have hf0 : r.f = 0 := hid.1
    have hl1 : r.fl = 1 := by
      have := hid.2
      rw [IntWalk.wrap64_in _ (by omega)] at this
      omega
    have hlcn : lc = n - 1 := by
      rw [← HLC.out]
      unfold closedOrd
      rw [if_pos hid, show (List.range n).erase i = butI n i from rfl, butI_length hi]
    have hlcI : (lc : Int) = n - 1 := by omega
    clear hid hlcn
    go_wp2
    go_loopw [20] (fun t wr => ∃ k : Nat, k + 1 ≤ n ∧ t = .int .i64 k ∧ Below wv.heap.size wv wr) (fun t _ => n - (intOf t).toNat)
    case atStart => exact ⟨0, by omega, rfl, Below.refl _ _⟩
    case round =>
      obtain ⟨k, hk, rfl, hbel⟩ := hrel
      have HBel : Hid (Below wv.heap.size wv wr) := hbel
      by_cases hlt : k + 1 < n
      · obtain ⟨j, hj1, hj2, hjn, hjr⟩ := HGet.out k hlt
        have HX : Hid ((ld51 (.pointer (some ⟨g2, k * 36, none⟩))).run Try.prog wr.drew = .ok (.value (.agg (recC j (R j)).toArray)) wr.drew ∧ (ld51 (.pointer (some ⟨g1, k * 36, none⟩))).run Try.prog wr.drew = .ok (.value (.agg (recC j (R j)).toArray)) wr.drew) :=
      ⟨ld51_run (range_later hbel.drew hj2) (recC_length _ _), ld51_run (range_later hbel.drew hj1) (recC_length _ _)⟩
        have hne := fun W => neq51_same j hjr W
        clear hj1 hj2 hjr hbel
        have hkI : (k : Int) < n - 1 := by omega
        have hkn : (k : Int) < n := by omega
        have hkl : (k : Int) < lc := by omega
        generalize R j = rj at *
        go_wp2
        go_region_held3 (fun w' => (ld51 (.pointer (some ⟨g2, k * 36, none⟩))).run Try.prog w' = .ok (.value (.agg (recC j rj).toArray)) w' ∧ (ld51 (.pointer (some ⟨g1, k * 36, none⟩))).run Try.prog w' = .ok (.value (.agg (recC j rj).toArray)) w') (first | exact HX.out | assumption) (fail)
        clear hne
        clear ‹Sem.run _ (ld51 _) _ = _ ∧ _›
        go_wp2
        go_roundw
        case rel => exact ⟨k + 1, by omega, by go_num, HBel.out.drew⟩
        case measure =>
          show n - (intOf (.int .i64 ((k : Int) + 1))).toNat < n - (intOf (.int .i64 (k : Int))).toNat
          simp only [intOf]
          omega
      · have hkI : ¬ (k : Int) < n - 1 := by omega
        clear hbel
        go_wp2
        go_ret
        exact ⟨rfl, HBV.out.trans (HBel.out.mono HBV.out.size)⟩
  · have hlcn : lc = n := by
      rw [← HLC.out]
      unfold closedOrd
      rw [if_neg hid, List.length_append, show (List.range n).erase i = butI n i from rfl, butI_length hi]
      simp
      omega
    have hlcI : (lc : Int) = n := by omega
    have HCO : Hid (closedOrd r i (List.range n) = butI n i ++ [i]) := by
      unfold closedOrd
      rw [if_neg hid]
      rfl
    have HCR : Hid (closedRec r now = ⟨r.f, r.lf, now, wrap64 (r.fl - 1)⟩) := by
      unfold closedRec
      rw [if_neg hid]
      rfl
    have hnid : ¬ (r.f = 0 ∧ r.fl = 1) := fun hc => hid ⟨hc.1, by have := hc.2; unfold wrap64; omega⟩
    clear hid hlcn
    by_cases hf0 : r.f = 0
    · have hl1 : ¬ r.fl = 1 := fun e => hnid ⟨hf0, e⟩
      go_wp2
      go_loopw [21] (fun t wr => ∃ k : Nat, k + 1 ≤ n ∧ t = .int .i64 k ∧ Below wv.heap.size wv wr) (fun t _ => n - (intOf t).toNat)
      case atStart => exact ⟨0, by omega, rfl, Below.refl _ _⟩
      case round =>
        obtain ⟨k, hk, rfl, hbel⟩ := hrel
        have HBel : Hid (Below wv.heap.size wv wr) := hbel
        by_cases hlt : k + 1 < n
        · obtain ⟨j, hj1, hj2, hjn, hjr⟩ := HGet.out k hlt
          have HX : Hid ((ld51 (.pointer (some ⟨g2, k * 36, none⟩))).run Try.prog wr.drew = .ok (.value (.agg (recC j (R j)).toArray)) wr.drew ∧ (ld51 (.pointer (some ⟨g1, k * 36, none⟩))).run Try.prog wr.drew = .ok (.value (.agg (recC j (R j)).toArray)) wr.drew) :=
        ⟨ld51_run (range_later hbel.drew hj2) (recC_length _ _), ld51_run (range_later hbel.drew hj1) (recC_length _ _)⟩
          have hne := fun W => neq51_same j hjr W
          clear hj1 hj2 hjr hbel
          have hkI : (k : Int) < n - 1 := by omega
          have hkn : (k : Int) < n := by omega
          have hkl : (k : Int) < lc := by omega
          generalize R j = rj at *
          go_wp2
          go_region_held3 (fun w' => (ld51 (.pointer (some ⟨g2, k * 36, none⟩))).run Try.prog w' = .ok (.value (.agg (recC j rj).toArray)) w' ∧ (ld51 (.pointer (some ⟨g1, k * 36, none⟩))).run Try.prog w' = .ok (.value (.agg (recC j rj).toArray)) w') (first | exact HX.out | assumption) (fail)
          clear hne
          clear ‹Sem.run _ (ld51 _) _ = _ ∧ _›
          go_wp2
          go_roundw
          case rel => exact ⟨k + 1, by omega, by go_num, HBel.out.drew⟩
          case measure =>
            show n - (intOf (.int .i64 ((k : Int) + 1))).toNat < n - (intOf (.int .i64 (k : Int))).toNat
            simp only [intOf]
            omega
        · have hkI : ¬ (k : Int) < n - 1 := by omega
          have hb9r : Below w9.heap.size w9 wr := HW.out.trans (hbel.mono HW.out.size)
          have HRc : Hid (wr.rangeAt g2 ((n - 1) * 36) (recC i ⟨r.f, r.lf, now, wrap64 (r.fl - 1)⟩)) := by
            have := RowOk.get HRow2.out (k := n - 1) (i := i) (by
              rw [HCO.out, List.getElem?_append_right (by rw [butI_length hi]; omega), butI_length hi]
              simp)
            rw [put_at, HCR.out] at this
            exact range_later hb9r this
          have HBR : Hid (Below w1.heap.size w1 wr) := HBV.out.trans (hbel.mono HBV.out.size)
          have HQr : Hid (QS lb b (off + i * 4) i r now wr) := QS.step HQ3.out hbel
          clear hbel hb9r hf0
          have hnl : ((n : Int) - 1) < lc := by omega
          go_wp2_with (first
            | (refine wpList_load_mid (by rfl) 51 (.tmp 191) (by rfl) g2 ((n - 1) * 36) (by rfl) (recC i ⟨r.f, r.lf, now, wrap64 (r.fl - 1)⟩) _ HRc.out Try.underlying51 rfl (by rw [recC_length]; exact size51) ?_)
            | (refine wpList_store_fresh51 (cs := recC i ⟨r.f, r.lf, now, wrap64 (r.fl - 1)⟩) (by rfl) (.tmp 22) (.tmp 192) (by rfl) (by rfl) wr.heap.size (by rfl) (by rfl) (by rfl) (by rfl) (recC_length _ _) (recC_one _ _) ?_; intro W5 hb5 hr5 hs5; have HR5 : Hid _ := hr5; clear hr5))
          have HZ : Hid (ZS lb wr.heap.size b (off + i * 4) i r now W5) := by
            have hg : ∀ t v, (recC i ⟨r.f, r.lf, now, wrap64 (r.fl - 1)⟩)[t]? = some v → W5.cell? ⟨wr.heap.size, t, none⟩ = some v := fun t v hv => by
              have := HR5.out t v hv
              rwa [Nat.zero_add] at this
            refine ⟨fun t v hv => ?_, hg 32 _ (rec_get i _ 0 _ rfl), hg 33 _ (rec_get i _ 1 _ rfl), hg 34 _ (rec_get i _ 2 _ rfl), hg 35 _ (rec_get i _ 3 _ rfl), QS.step HQr.out hb5⟩
            rw [Nat.zero_add]
            refine hg t v ?_
            unfold recC
            rw [List.getElem?_append_left (List.getElem?_eq_some_iff.1 hv).1]
            exact hv
          have HB5 : Hid (Below w1.heap.size w1 W5) := HBR.out.trans (hb5.mono HBR.out.size)
          have heq := eql49_same i
          clear hb5 hs5 HR5 HRc q0 q3
          generalize hcb : wr.heap.size = cb at HZ ⊢
          clear hcb
          obtain ⟨z0, z1, z2, z3, z4, z5, z6, z7, z8, z9, z10, z11, z12⟩ := HZ.out
          have hA : ∀ m, (ld49 (.pointer (some ⟨cb, 0, none⟩))).run Try.prog (W5.drewN m) = .ok (.value (.agg (kl i).toArray)) (W5.drewN m) := fun m => ld49_run (fun t v hv => z0 t v hv) (kl_length i)
          have hB : ∀ m, (ld49 (.pointer (some ⟨lb, 0, none⟩))).run Try.prog (W5.drewN m) = .ok (.value (.agg (kl i).toArray)) (W5.drewN m) := fun m => ld49_run (fun t v hv => z5 t v hv) (kl_length i)
          clear z0 z5 z7 HZ
          go_quiet (fail)
          go_wp2
          go_ret
          exact ⟨rfl, below_drewN HB5.out _⟩
    · go_wp2
      go_loopw [21] (fun t wr => ∃ k : Nat, k + 1 ≤ n ∧ t = .int .i64 k ∧ Below wv.heap.size wv wr) (fun t _ => n - (intOf t).toNat)
      case atStart => exact ⟨0, by omega, rfl, Below.refl _ _⟩
      case round =>
        obtain ⟨k, hk, rfl, hbel⟩ := hrel
        have HBel : Hid (Below wv.heap.size wv wr) := hbel
        by_cases hlt : k + 1 < n
        · obtain ⟨j, hj1, hj2, hjn, hjr⟩ := HGet.out k hlt
          have HX : Hid ((ld51 (.pointer (some ⟨g2, k * 36, none⟩))).run Try.prog wr.drew = .ok (.value (.agg (recC j (R j)).toArray)) wr.drew ∧ (ld51 (.pointer (some ⟨g1, k * 36, none⟩))).run Try.prog wr.drew = .ok (.value (.agg (recC j (R j)).toArray)) wr.drew) :=
        ⟨ld51_run (range_later hbel.drew hj2) (recC_length _ _), ld51_run (range_later hbel.drew hj1) (recC_length _ _)⟩
          have hne := fun W => neq51_same j hjr W
          clear hj1 hj2 hjr hbel
          have hkI : (k : Int) < n - 1 := by omega
          have hkn : (k : Int) < n := by omega
          have hkl : (k : Int) < lc := by omega
          generalize R j = rj at *
          go_wp2
          go_region_held3 (fun w' => (ld51 (.pointer (some ⟨g2, k * 36, none⟩))).run Try.prog w' = .ok (.value (.agg (recC j rj).toArray)) w' ∧ (ld51 (.pointer (some ⟨g1, k * 36, none⟩))).run Try.prog w' = .ok (.value (.agg (recC j rj).toArray)) w') (first | exact HX.out | assumption) (fail)
          clear hne
          clear ‹Sem.run _ (ld51 _) _ = _ ∧ _›
          go_wp2
          go_roundw
          case rel => exact ⟨k + 1, by omega, by go_num, HBel.out.drew⟩
          case measure =>
            show n - (intOf (.int .i64 ((k : Int) + 1))).toNat < n - (intOf (.int .i64 (k : Int))).toNat
            simp only [intOf]
            omega
        · have hkI : ¬ (k : Int) < n - 1 := by omega
          have hb9r : Below w9.heap.size w9 wr := HW.out.trans (hbel.mono HW.out.size)
          have HRc : Hid (wr.rangeAt g2 ((n - 1) * 36) (recC i ⟨r.f, r.lf, now, wrap64 (r.fl - 1)⟩)) := by
            have := RowOk.get HRow2.out (k := n - 1) (i := i) (by
              rw [HCO.out, List.getElem?_append_right (by rw [butI_length hi]; omega), butI_length hi]
              simp)
            rw [put_at, HCR.out] at this
            exact range_later hb9r this
          have HBR : Hid (Below w1.heap.size w1 wr) := HBV.out.trans (hbel.mono HBV.out.size)
          have HQr : Hid (QS lb b (off + i * 4) i r now wr) := QS.step HQ3.out hbel
          clear hbel hb9r hf0
          have hnl : ((n : Int) - 1) < lc := by omega
          go_wp2_with (first
            | (refine wpList_load_mid (by rfl) 51 (.tmp 191) (by rfl) g2 ((n - 1) * 36) (by rfl) (recC i ⟨r.f, r.lf, now, wrap64 (r.fl - 1)⟩) _ HRc.out Try.underlying51 rfl (by rw [recC_length]; exact size51) ?_)
            | (refine wpList_store_fresh51 (cs := recC i ⟨r.f, r.lf, now, wrap64 (r.fl - 1)⟩) (by rfl) (.tmp 22) (.tmp 192) (by rfl) (by rfl) wr.heap.size (by rfl) (by rfl) (by rfl) (by rfl) (recC_length _ _) (recC_one _ _) ?_; intro W5 hb5 hr5 hs5; have HR5 : Hid _ := hr5; clear hr5))
          have HZ : Hid (ZS lb wr.heap.size b (off + i * 4) i r now W5) := by
            have hg : ∀ t v, (recC i ⟨r.f, r.lf, now, wrap64 (r.fl - 1)⟩)[t]? = some v → W5.cell? ⟨wr.heap.size, t, none⟩ = some v := fun t v hv => by
              have := HR5.out t v hv
              rwa [Nat.zero_add] at this
            refine ⟨fun t v hv => ?_, hg 32 _ (rec_get i _ 0 _ rfl), hg 33 _ (rec_get i _ 1 _ rfl), hg 34 _ (rec_get i _ 2 _ rfl), hg 35 _ (rec_get i _ 3 _ rfl), QS.step HQr.out hb5⟩
            rw [Nat.zero_add]
            refine hg t v ?_
            unfold recC
            rw [List.getElem?_append_left (List.getElem?_eq_some_iff.1 hv).1]
            exact hv
          have HB5 : Hid (Below w1.heap.size w1 W5) := HBR.out.trans (hb5.mono HBR.out.size)
          have heq := eql49_same i
          clear hb5 hs5 HR5 HRc q0 q3
          generalize hcb : wr.heap.size = cb at HZ ⊢
          clear hcb
          obtain ⟨z0, z1, z2, z3, z4, z5, z6, z7, z8, z9, z10, z11, z12⟩ := HZ.out
          have hA : ∀ m, (ld49 (.pointer (some ⟨cb, 0, none⟩))).run Try.prog (W5.drewN m) = .ok (.value (.agg (kl i).toArray)) (W5.drewN m) := fun m => ld49_run (fun t v hv => z0 t v hv) (kl_length i)
          have hB : ∀ m, (ld49 (.pointer (some ⟨lb, 0, none⟩))).run Try.prog (W5.drewN m) = .ok (.value (.agg (kl i).toArray)) (W5.drewN m) := fun m => ld49_run (fun t v hv => z5 t v hv) (kl_length i)
          clear z0 z5 z7 HZ
          go_quiet (fail)
          go_wp2
          go_ret
          exact ⟨rfl, below_drewN HB5.out _⟩
end Go.Proofs.Qxb6612554a
