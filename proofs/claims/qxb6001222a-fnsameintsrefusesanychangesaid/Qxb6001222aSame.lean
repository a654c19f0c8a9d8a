import Derived.Test.Qxb6001222aRows
import Derived.WalkKit
import Derived.ProofKit
import Derived.WalkSpells
import Derived.Below
import Derived.Deep.RegionHeld3
import Derived.Deep.DrawnRows
namespace Go.Proofs.Qxb6001222a
open Go.ChangeShapes Go.WideShapes Go.ChangeAt Go.RowKit
set_option linter.unusedVariables false

theorem zzBytes15 (w : World) (a0 : Option Addr) (n c0 : Nat) (i d x : Int) (hn : n ≤ maxLen) :
    Calls Try.prog 15 #[.slice a0 n c0, .int .i64 i, .int .i64 d, .int .i64 x] w fun e w' => (e = .returned (.bool true) ∨ e = .returned (.bool false)) ∧ w' = w := by
  unfold maxLen at hn
  go_enter Try.func15, Try.ntmps15
  by_cases h : n ≤ 1048576
  · go_wp2
    go_ret
    exact ⟨Or.inl rfl, rfl⟩
  · go_wp2
    go_ret
    exact ⟨Or.inr rfl, rfl⟩

/-- A slice of ints, as the list of its elements. -/
def SV (w : World) (a : Option Addr) (L : List Int) : Prop := L ≠ [] → ∃ x, a = some x ∧ ∀ j v, L[j]? = some v → w.cell? (x.add j) = some (.int .i64 v)
theorem SV.later {w w' : World} {a : Option Addr} {L : List Int} (h : SV w a L) (hb : Below w.heap.size w w') : SV w' a L := by
  intro hne
  obtain ⟨x, hx, hc⟩ := h hne
  exact ⟨x, hx, fun j v hv => cell_later hb (hc j v hv)⟩

set_option maxRecDepth 20000 in
set_option maxHeartbeats 1000000 in
theorem sameInts_any (w : World) (a b : Option Addr) (ca cb : Nat) (La Lb : List Int) (hla : La.length ≤ 1000000) (hlb : Lb.length ≤ 1000000) (ha : SV w a La) (hb : SV w b Lb) :
    Calls Try.prog 45 #[.slice a La.length ca, .slice b Lb.length cb] w fun e w' => e = .returned (.bool (decide (La = Lb))) ∧ Below w.heap.size w w' := by
  generalize hna : La.length = n at *
  generalize hnb : Lb.length = m at *
  by_cases hnm : n = m
  rotate_left
  · have hne : ¬ La = Lb := by rintro rfl; omega
    rw [decide_eq_false hne]
    have hI : ¬ (n : Int) = m := by omega
    go_enter Try.func45, Try.ntmps45
    go_wp2
    go_ret
    exact ⟨rfl, Below.refl _ _⟩
  subst hnm
  go_enter Try.func45, Try.ntmps45
  go_wp2
  go_loopw [13] (fun t wr => ∃ k : Nat, k ≤ n ∧ t = .int .i64 k ∧ (∀ j, j < k → La[j]? = Lb[j]?) ∧ Below w.heap.size w wr) (fun t _ => n - (intOf t).toNat)
  case atStart => exact ⟨0, Nat.zero_le _, rfl, fun j hj => by omega, Below.refl _ _⟩
  case round =>
    obtain ⟨k, hk, rfl, heq, hbel⟩ := hrel
    by_cases hlt : k < n
    · obtain ⟨x, rfl, hxa⟩ := ha (by rintro rfl; simp at hna; omega)
      obtain ⟨y, rfl, hyb⟩ := hb (by rintro rfl; simp at hnb; omega)
      have e1 : La[k]? = some (La[k]'(by omega)) := List.getElem?_eq_getElem (by omega)
      have e2 : Lb[k]? = some (Lb[k]'(by omega)) := List.getElem?_eq_getElem (by omega)
      generalize La[k]'(by omega) = u at e1
      generalize Lb[k]'(by omega) = v at e2
      have c1 := cell_later hbel (hxa k u e1)
      have c2 := cell_later hbel (hyb k v e2)
      have hkI : (k : Int) < n := by omega
      have H0 : Hid (wr.drew.cell? (x.add k) = some (.int .i64 u) ∧ wr.drew.cell? (y.add k) = some (.int .i64 v) ∧ Below w.heap.size w wr.drew) := ⟨c1, c2, hbel.drew⟩
      clear c1 c2 hbel ha hb
      go_wp2
      go_region_held3 (fun w' => w'.cell? (x.add k) = some (.int .i64 u) ∧ w'.cell? (y.add k) = some (.int .i64 v) ∧ Below w.heap.size w w') (first | exact H0.out | assumption) (fail)
      by_cases huv : u = v
      · go_wp2
        go_roundw
        case rel =>
          refine ⟨k + 1, by omega, by go_num, fun j hj => ?_, H0.out.2.2⟩
          by_cases e : j = k
          · subst e; rw [e1, e2, huv]
          · exact heq j (by omega)
        case measure => simp [intOf]; omega
      · have hne : ¬ La = Lb := by
          rintro rfl
          rw [e1] at e2
          exact huv (Option.some.inj e2)
        go_wp2
        go_ret
        rw [decide_eq_false hne]
        exact ⟨rfl, H0.out.2.2⟩
    · obtain rfl : k = n := by omega
      have he : La = Lb := by
        apply List.ext_getElem?
        intro j
        by_cases hj : j < k
        · exact heq j hj
        · rw [List.getElem?_eq_none (by omega), List.getElem?_eq_none (by omega)]
      go_wp2
      go_ret
      rw [decide_eq_true he]
      exact ⟨rfl, hbel⟩
theorem ZZSameInts_any (w : World) (a b : Option Addr) (ca cb : Nat) (La Lb : List Int) (hla : La.length ≤ 1000000) (hlb : Lb.length ≤ 1000000) (ha : SV w a La) (hb : SV w b Lb) :
    Calls Try.prog 13 #[.slice a La.length ca, .slice b Lb.length cb] w fun e w' => e = .returned (.bool (decide (La = Lb))) ∧ Below w.heap.size w w' := by
  have hC := sameInts_any w a b ca cb La Lb hla hlb ha hb
  generalize decide (La = Lb) = bb at *
  clear ha hb
  generalize La.length = n at *
  generalize Lb.length = m at *
  go_enter Try.func13, Try.ntmps13
  go_wp2_with fail
  refine hC.mono ?_
  rintro e w1 ⟨rfl, hb1⟩
  go_wp2
  go_ret
  exact ⟨rfl, hb1⟩

/-- A row of ints in a block of its own. -/
def RowB (w : World) (g : Nat) (L : List Int) : Prop := w.heap[g]? = some (.cells (L.map (Value.int .i64)).toArray 3 (0, 0))
theorem RowB.lt {w : World} {g : Nat} {L : List Int} (h : RowB w g L) : g < w.heap.size := by
  rcases Nat.lt_or_ge g w.heap.size with h' | h'
  · exact h'
  · unfold RowB at h; rw [Array.getElem?_eq_none h'] at h; cases h
theorem RowB.cell {w : World} {g : Nat} {L : List Int} (h : RowB w g L) {j : Nat} {v : Int} (hj : L[j]? = some v) : w.cell? ⟨g, j, none⟩ = some (.int .i64 v) := by
  unfold RowB at h
  simp [World.cell?, h, hj]
theorem RowB.fz {w : World} {g : Nat} {L : List Int} (h : RowB w g L) (o : Nat) : w.frozen? ⟨g, o, none⟩ = false := by
  unfold RowB at h
  simp [World.frozen?, h]
theorem RowB.sv {w : World} {g : Nat} {L : List Int} (h : RowB w g L) : SV w (some ⟨g, 0, none⟩) L := fun _ => ⟨⟨g, 0, none⟩, rfl, fun j v hv => by
  rw [Addr.add_mid, Nat.zero_add]; exact h.cell hv⟩
theorem RowB.later {w w' : World} {g : Nat} {L : List Int} (h : RowB w g L) (hb : Below w.heap.size w w') : RowB w' g L := by
  unfold RowB
  rw [hb.block _ h.lt]; exact h
theorem RowB.set {w : World} {g : Nat} {L : List Int} (h : RowB w g L) (o : Nat) (v : Int) : RowB (w.setCell ⟨g, o, none⟩ (.int .i64 v)) g (L.set o v) := by
  unfold RowB at h ⊢
  simp only [World.setCell, Array.getElem?_modify]
  simp [h, List.map_set]
theorem RowB.far {w : World} {g g' o : Nat} {L : List Int} {v : Value} (h : RowB w g L) (hne : g ≠ g') : RowB (w.setCell ⟨g', o, none⟩ v) g L := by
  unfold RowB at h ⊢
  rw [Below.heap_setCell _ _ _ _ hne]; exact h

theorem made_replicate (z : Value) (n : Nat) : madeCells #[z] n = Array.replicate n z := by
  apply Array.ext
  · simp [madeCells]
  · intro j h1 h2
    simp [madeCells, Nat.mod_one]
theorem info3 : (Try.prog.info? 3).map (fun i => (i.zero, i.size, i.bytes)) = some (some (.int .i64 0), 1, 8) := by kernel_rfl
/-- 'make([]int, n)' -/
theorem make22 (n : Nat) (hn : n ≤ 2000000) (w : World) : (Instr.makeSlice 22 (.int .i64 n) (.int .i64 n)).run Try.prog w = .ok (.slice (some ⟨w.heap.size, 0, none⟩) n n) (w.alloc (.cells (Array.replicate n (.int .i64 0)) 3)) := by
  obtain ⟨i0, hi, hz0, hz1, hz2⟩ := info_parts info3
  have := run_make (P := Try.prog) w 22 3 i0 (.int .i64 0) Try.underlying22 hi hz0 .i64 .i64 n n (by omega) (by omega) (by rw [hz2]; omega) (by omega)
  rw [this, hz1]
  have e : madeCells (Value.cells (.int .i64 0)) (n * 1) = Array.replicate n (.int .i64 0) := by
    rw [Nat.mul_one]
    exact made_replicate _ _
  simp only [Int.toNat_natCast, e]

/-- A row that is filled up to k. -/
def fill (L : List Int) (k m : Nat) : List Int := L.take k ++ List.replicate (m - k) 0
theorem fill_length {L : List Int} {k m : Nat} (hk : k ≤ L.length) (hm : k ≤ m) : (fill L k m).length = m := by simp [fill]; omega
theorem fill_zero (L : List Int) (m : Nat) : fill L 0 m = List.replicate m 0 := by simp [fill]
theorem fill_all (L : List Int) : fill L L.length L.length = L := by simp [fill]
theorem fill_step {L : List Int} {k m : Nat} {v : Int} (hv : L[k]? = some v) (hm : k < m) : (fill L k m).set k v = fill L (k + 1) m := by
  have hk : k < L.length := (List.getElem?_eq_some_iff.1 hv).1
  have hl : (L.take k).length = k := by simp; omega
  unfold fill
  rw [List.set_append_right _ _ (by omega), hl, Nat.sub_self]
  obtain ⟨q, hq⟩ : ∃ q, m - k = q + 1 := ⟨m - k - 1, by omega⟩
  rw [hq, show m - (k + 1) = q by omega, List.replicate_succ, List.set_cons_zero, List.take_add_one, hv]
  simp
theorem fill_get {L : List Int} {k m : Nat} (hk : k ≤ L.length) (hm : k < m) : (fill L k m)[k]? = some 0 := by
  have hl : (L.take k).length = k := by simp; omega
  unfold fill
  rw [List.getElem?_append_right (by omega), hl, Nat.sub_self, List.getElem?_replicate, if_pos (by omega)]

set_option maxRecDepth 20000 in
set_option maxHeartbeats 1000000 in
theorem clone_any (w : World) (a : Option Addr) (n c : Nat) (L : List Int) (hL : L.length = n) (hn : n ≤ 1000000) (ha : SV w a L) (hnil : a = none → n = 0 ∧ c = 0) :
    Calls Try.prog 12 #[.slice a n c] w fun e w' => ∃ a', e = .returned (.slice a' n n) ∧ SV w' a' L ∧ ((a' = none ∧ n = 0) ∨ (a' = some ⟨w.heap.size, 0, none⟩ ∧ RowB w' w.heap.size L)) ∧ Below w.heap.size w w' := by
  cases a with
  | none =>
    obtain ⟨rfl, rfl⟩ := hnil rfl
    clear hnil
    have hnl : (binOp .eql 22 (.slice none 0 0) (.slice none 0 0)).run Try.prog w = .ok (.bool true) w := Lib.run_eql_slice_nil w 22 3 none 0 0 0 0 Try.underlying22
    go_enter Try.func12, Try.ntmps12
    go_wp2
    go_ret
    exact ⟨none, rfl, ha, Or.inl (by simp), Below.refl _ _⟩
  | some x =>
    have hmk := make22 n (by omega) w
    have hnl : (binOp .eql 22 (.slice (some x) n c) (.slice none 0 0)).run Try.prog w = .ok (.bool false) w := Lib.run_eql_slice_nil w 22 3 (some x) n c 0 0 Try.underlying22
    have HR0 : Hid (RowB (w.alloc (.cells (Array.replicate n (.int .i64 0)) 3)) w.heap.size (fill L 0 n)) := by
      show RowB _ _ _
      rw [fill_zero]
      unfold RowB
      rw [heap_alloc_new w _]
      simp
    have HBW : Hid (Below w.heap.size w (w.alloc (.cells (Array.replicate n (.int .i64 0)) 3))) := (Below.refl _ _).alloc (Nat.le_refl _) _
    have HA : Hid _ := ha
    clear ha hnil
    go_enter Try.func12, Try.ntmps12
    go_wp2
    clear hmk hnl
    generalize hq : w.heap.size = q at *
    go_loopw [4] (fun t wr => ∃ k : Nat, k ≤ n ∧ t = .int .i64 k ∧ RowB wr q (fill L k n) ∧ Below q w wr) (fun t _ => n - (intOf t).toNat)
    case atStart => exact ⟨0, Nat.zero_le _, rfl, HR0.out, HBW.out⟩
    case round =>
      obtain ⟨k, hk, rfl, hrow, hbx⟩ := hrel
      have HRow : Hid _ := hrow
      have HBX : Hid (Below q w wr) := hbx
      by_cases hlt : k < n
      · have hne : L ≠ [] := by rintro rfl; simp at hL; omega
        obtain ⟨x', hx', hxc⟩ := HA.out hne
        cases hx'
        have e1 : L[k]? = some (L[k]'(by omega)) := List.getElem?_eq_getElem (by omega)
        generalize L[k]'(by omega) = u at e1
        have c1 : wr.cell? (x.add k) = some (.int .i64 u) := cell_later (by rw [hq]; exact hbx) (hxc k u e1)
        have c2 := hrow.cell (fill_get (L := L) (k := k) (m := n) (by omega) hlt)
        have f2 := hrow.fz k
        have hkI : (k : Int) < n := by omega
        have HN : Hid _ := hrow.set k u
        rw [fill_step e1 hlt] at HN
        clear hrow hbx HR0 HBW hxc e1
        go_wp2
        go_roundw
        case rel => exact ⟨k + 1, by omega, by go_num, HN.out, HBX.out.setCell (Nat.le_refl _) _⟩
        case measure => simp [intOf]; omega
      · obtain rfl : k = n := by omega
        clear hrow hbx
        go_wp2
        go_ret
        have hR : RowB wr q (fill L k k) := HRow.out
        rw [← hL, fill_all] at hR
        subst hq
        exact ⟨_, rfl, hR.sv, Or.inr ⟨rfl, hR⟩, HBX.out⟩
end Go.Proofs.Qxb6001222a
