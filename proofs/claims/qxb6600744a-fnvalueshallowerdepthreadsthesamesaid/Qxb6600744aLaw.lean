import Derived.Test.Qxb6600744aVal
import Derived.Deep.RegionHeld3
import Derived.Deep.DrawnRows
namespace Go.Proofs.Qxb6600744a
open Go.ChangeShapes Go.WideShapes Go.ChangeAt Go.RowKit
set_option linter.unusedVariables false

theorem zzBytes26 (w : World) (a0 : Option Addr) (n c0 : Nat) (d e : Int) (hn : n ≤ maxLen) :
    Calls Try.prog 26 #[.slice a0 n c0, .int .i64 d, .int .i64 e] w fun e w' => (e = .returned (.bool true) ∨ e = .returned (.bool false)) ∧ w' = w := by
  unfold maxLen at hn
  go_enter Try.func26, Try.ntmps26
  by_cases h : n ≤ 1048576
  · go_wp2
    go_ret
    exact ⟨Or.inl rfl, rfl⟩
  · go_wp2
    go_ret
    exact ⟨Or.inr rfl, rfl⟩

/-- A slice of ints, as the list of its elements. -/
def SV (w : World) (a : Option Addr) (L : List Int) : Prop := L ≠ [] → ∃ x, a = some x ∧ ∀ j v, L[j]? = some v → w.cell? (x.add j) = some (.int .u8 v)
theorem SV.later {w w' : World} {a : Option Addr} {L : List Int} (h : SV w a L) (hb : Below w.heap.size w w') : SV w' a L := by
  intro hne
  obtain ⟨x, hx, hc⟩ := h hne
  exact ⟨x, hx, fun j v hv => cell_later hb (hc j v hv)⟩

/-- A row of ints in a block of its own. -/
def RowB (w : World) (g : Nat) (L : List Int) : Prop := w.heap[g]? = some (.cells (L.map (Value.int .u8)).toArray 5 (0, 0))
theorem RowB.lt {w : World} {g : Nat} {L : List Int} (h : RowB w g L) : g < w.heap.size := by
  rcases Nat.lt_or_ge g w.heap.size with h' | h'
  · exact h'
  · unfold RowB at h; rw [Array.getElem?_eq_none h'] at h; cases h
theorem RowB.cell {w : World} {g : Nat} {L : List Int} (h : RowB w g L) {j : Nat} {v : Int} (hj : L[j]? = some v) : w.cell? ⟨g, j, none⟩ = some (.int .u8 v) := by
  unfold RowB at h
  simp [World.cell?, h, hj]
theorem RowB.fz {w : World} {g : Nat} {L : List Int} (h : RowB w g L) (o : Nat) : w.frozen? ⟨g, o, none⟩ = false := by
  unfold RowB at h
  simp [World.frozen?, h]
theorem RowB.sv {w : World} {g : Nat} {L : List Int} (h : RowB w g L) : SV w (some ⟨g, 0, none⟩) L := fun _ => ⟨⟨g, 0, none⟩, rfl, fun j v hv => by
  rw [Addr.add_mid, Nat.zero_add]; exact h.cell hv⟩
theorem RowB.later {w w' : World} {g : Nat} {L : List Int} (h : RowB w g L) (hb : Below w.heap.size w w') : RowB w' g L := by
  unfold RowB
  rw [hb.block _ h.lt]; exact h
theorem RowB.set {w : World} {g : Nat} {L : List Int} (h : RowB w g L) (o : Nat) (v : Int) : RowB (w.setCell ⟨g, o, none⟩ (.int .u8 v)) g (L.set o v) := by
  unfold RowB at h ⊢
  simp only [World.setCell, Array.getElem?_modify]
  simp [h, List.map_set]
theorem RowB.far {w : World} {g g' o : Nat} {L : List Int} {v : Value} (h : RowB w g L) (hne : g ≠ g') : RowB (w.setCell ⟨g', o, none⟩ v) g L := by
  unfold RowB at h ⊢
  rw [Below.heap_setCell _ _ _ _ hne]; exact h

theorem made_replicate (z : Value) (n : Nat) : madeCells #[z] n = Array.replicate n z := by
  apply Array.ext
  · simp [madeCells]
  · intro j h1 h2
    simp [madeCells, Nat.mod_one]
theorem info5 : (Try.prog.info? 5).map (fun i => (i.zero, i.size, i.bytes)) = some (some (.int .u8 0), 1, 1) := by kernel_rfl
/-- 'make([]int, n)' -/
theorem make22 (n : Nat) (hn : n ≤ 2000000) (w : World) : (Instr.makeSlice 22 (.int .i64 n) (.int .i64 n)).run Try.prog w = .ok (.slice (some ⟨w.heap.size, 0, none⟩) n n) (w.alloc (.cells (Array.replicate n (.int .u8 0)) 5)) := by
  obtain ⟨i0, hi, hz0, hz1, hz2⟩ := info_parts info5
  have := run_make (P := Try.prog) w 22 5 i0 (.int .u8 0) Try.underlying22 hi hz0 .i64 .i64 n n (by omega) (by omega) (by rw [hz2]; omega) (by omega)
  rw [this, hz1]
  have e : madeCells (Value.cells (.int .u8 0)) (n * 1) = Array.replicate n (.int .u8 0) := by
    rw [Nat.mul_one]
    exact made_replicate _ _
  simp only [Int.toNat_natCast, e]

/-- A row that is filled up to k. -/
def fill (L : List Int) (k m : Nat) : List Int := L.take k ++ List.replicate (m - k) 0
theorem fill_length {L : List Int} {k m : Nat} (hk : k ≤ L.length) (hm : k ≤ m) : (fill L k m).length = m := by simp [fill]; omega
theorem fill_zero (L : List Int) (m : Nat) : fill L 0 m = List.replicate m 0 := by simp [fill]
theorem fill_all (L : List Int) : fill L L.length L.length = L := by simp [fill]
theorem fill_step {L : List Int} {k m : Nat} {v : Int} (hv : L[k]? = some v) (hm : k < m) : (fill L k m).set k v = fill L (k + 1) m := by
  have hk : k < L.length := (List.getElem?_eq_some_iff.1 hv).1
  have hl : (L.take k).length = k := by simp; omega
  unfold fill
  rw [List.set_append_right _ _ (by omega), hl, Nat.sub_self]
  obtain ⟨q, hq⟩ : ∃ q, m - k = q + 1 := ⟨m - k - 1, by omega⟩
  rw [hq, show m - (k + 1) = q by omega, List.replicate_succ, List.set_cons_zero, List.take_add_one, hv]
  simp
theorem fill_get {L : List Int} {k m : Nat} (hk : k ≤ L.length) (hm : k < m) : (fill L k m)[k]? = some 0 := by
  have hl : (L.take k).length = k := by simp; omega
  unfold fill
  rw [List.getElem?_append_right (by omega), hl, Nat.sub_self, List.getElem?_replicate, if_pos (by omega)]

set_option maxRecDepth 20000 in
set_option maxHeartbeats 1000000 in
theorem clone_any (w : World) (a : Option Addr) (n c : Nat) (L : List Int) (hL : L.length = n) (hn : n ≤ 1500000) (ha : SV w a L) (hnil : a = none → n = 0 ∧ c = 0) :
    Calls Try.prog 12 #[.slice a n c] w fun e w' => ∃ a', e = .returned (.slice a' n n) ∧ SV w' a' L ∧ ((a' = none ∧ n = 0) ∨ (a' = some ⟨w.heap.size, 0, none⟩ ∧ RowB w' w.heap.size L)) ∧ Below w.heap.size w w' := by
  cases a with
  | none =>
    obtain ⟨rfl, rfl⟩ := hnil rfl
    clear hnil
    have hnl : (binOp .eql 22 (.slice none 0 0) (.slice none 0 0)).run Try.prog w = .ok (.bool true) w := Lib.run_eql_slice_nil w 22 5 none 0 0 0 0 Try.underlying22
    go_enter Try.func12, Try.ntmps12
    go_wp2
    go_ret
    exact ⟨none, rfl, ha, Or.inl (by simp), Below.refl _ _⟩
  | some x =>
    have hmk := make22 n (by omega) w
    have hnl : (binOp .eql 22 (.slice (some x) n c) (.slice none 0 0)).run Try.prog w = .ok (.bool false) w := Lib.run_eql_slice_nil w 22 5 (some x) n c 0 0 Try.underlying22
    have HR0 : Hid (RowB (w.alloc (.cells (Array.replicate n (.int .u8 0)) 5)) w.heap.size (fill L 0 n)) := by
      show RowB _ _ _
      rw [fill_zero]
      unfold RowB
      rw [heap_alloc_new w _]
      simp
    have HBW : Hid (Below w.heap.size w (w.alloc (.cells (Array.replicate n (.int .u8 0)) 5))) := (Below.refl _ _).alloc (Nat.le_refl _) _
    have HA : Hid _ := ha
    clear ha hnil
    go_enter Try.func12, Try.ntmps12
    go_wp2
    clear hmk hnl
    generalize hq : w.heap.size = q at *
    go_loopw [4] (fun t wr => ∃ k : Nat, k ≤ n ∧ t = .int .i64 k ∧ RowB wr q (fill L k n) ∧ Below q w wr) (fun t _ => n - (intOf t).toNat)
    case atStart => exact ⟨0, Nat.zero_le _, rfl, HR0.out, HBW.out⟩
    case round =>
      obtain ⟨k, hk, rfl, hrow, hbx⟩ := hrel
      have HRow : Hid _ := hrow
      have HBX : Hid (Below q w wr) := hbx
      by_cases hlt : k < n
      · have hne : L ≠ [] := by rintro rfl; simp at hL; omega
        obtain ⟨x', hx', hxc⟩ := HA.out hne
        cases hx'
        have e1 : L[k]? = some (L[k]'(by omega)) := List.getElem?_eq_getElem (by omega)
        generalize L[k]'(by omega) = u at e1
        have c1 : wr.cell? (x.add k) = some (.int .u8 u) := cell_later (by rw [hq]; exact hbx) (hxc k u e1)
        have c2 := hrow.cell (fill_get (L := L) (k := k) (m := n) (by omega) hlt)
        have f2 := hrow.fz k
        have hkI : (k : Int) < n := by omega
        have HN : Hid _ := hrow.set k u
        rw [fill_step e1 hlt] at HN
        clear hrow hbx HR0 HBW hxc e1
        go_wp2
        go_roundw
        case rel => exact ⟨k + 1, by omega, by go_num, HN.out, HBX.out.setCell (Nat.le_refl _) _⟩
        case measure => simp [intOf]; omega
      · obtain rfl : k = n := by omega
        clear hrow hbx
        go_wp2
        go_ret
        have hR : RowB wr q (fill L k k) := HRow.out
        rw [← hL, fill_all] at hR
        subst hq
        exact ⟨_, rfl, hR.sv, Or.inr ⟨rfl, hR⟩, HBX.out⟩

/-- What 'ZZValue' answers. -/
def ZPost (N : Nat) (o : Option Nat) (e : Ending) : Prop := (∃ q, o = some q ∧ e = .returned (.tuple #[.int .i64 ((N - q : Nat) : Int), .bool true])) ∨ (o = none ∧ ∃ m : Nat, e = .returned (.tuple #[.int .i64 (m : Int), .bool false]))

set_option maxRecDepth 20000 in
set_option maxHeartbeats 2000000 in
theorem ZZValue_any (w : World) (bb : Nat) (B : List Int) (d : Int) (hB : B.length ≤ 2000000) (hR : RowB w bb B) (hd0 : -9223372036854775808 ≤ d) (hd1 : d ≤ 32) :
    Calls Try.prog 24 #[.slice (some ⟨bb, 0, none⟩) B.length B.length, .bool true, .int .i64 d] w fun e w' => ZPost B.length (V B (2 * B.length + 2) .val d true 0) e ∧ Below w.heap.size w w' := by
  have HC0 : Hid (Cur (w.alloc (.cells #[.slice (some ⟨bb, 0, none⟩) B.length B.length, .bool true] 46)) w.heap.size bb B 0 true) := by
    refine ⟨0, fun _ => rfl, Nat.zero_le _, hR.lt, ?_, ?_⟩
    · rw [heap_alloc_new]; rfl
    · rw [Below.block ((Below.refl w.heap.size w).alloc (Nat.le_refl _) _) _ hR.lt]; exact hR
  have HB0 : Hid (Below w.heap.size w (w.alloc (.cells #[.slice (some ⟨bb, 0, none⟩) B.length B.length, .bool true] 46))) := (Below.refl _ _).alloc (Nat.le_refl _) _
  have hv := value_any B w.heap.size bb hB (2 * B.length + 2) _ 0 (some 0) d (Or.inl ⟨0, rfl, Nat.le_refl _, HC0.out⟩) (fun q hq => by cases hq; omega) hd0 hd1
  have HV : Hid (Calls Try.prog 31 #[Ptr w.heap.size, .int .i64 d] (w.alloc (.cells #[.slice (some ⟨bb, 0, none⟩) B.length B.length, .bool true] 46)) fun e w' => e = .returned (.tuple #[]) ∧ Res w' w.heap.size bb B 0 (V B (2 * B.length + 2) .val d true 0) ∧ Below w.heap.size (w.alloc (.cells #[.slice (some ⟨bb, 0, none⟩) B.length B.length, .bool true] 46)) w') := hv
  clear hv hR HC0
  generalize V B (2 * B.length + 2) .val d true 0 = ov at *
  generalize hN : B.length = N at *
  go_enter Try.func24, Try.ntmps24
  go_wp2_with fail
  refine Calls.mono HV.out ?_
  rintro e w1 ⟨rfl, hr1, hb1⟩
  have HB1 : Hid (Below w.heap.size w w1) := HB0.out.trans hb1
  clear HV HB0 hb1
  generalize hcb : w.heap.size = cb at *
  rcases hr1 with ⟨q, rfl, -, hc⟩ | ⟨rfl, q, -, hc⟩
  · obtain ⟨o, h1, h2, h3, h4, h5⟩ := hc
    rw [hN] at h4
    have H0 : Hid (w1.drew.cell? ⟨cb, 0, none⟩ = some (.slice (some ⟨bb, o, none⟩) (N - q) (N - q)) ∧ w1.drew.cell? ⟨cb, 1, none⟩ = some (.bool true)) := ⟨cell_of_block h4 0, cell_of_block h4 1⟩
    clear h1 h4 h5
    generalize hm : N - q = m at *
    go_wp2
    go_region_held3 (fun w' => w'.cell? ⟨cb, 0, none⟩ = some (.slice (some ⟨bb, o, none⟩) m m) ∧ w'.cell? ⟨cb, 1, none⟩ = some (.bool true)) (first | exact H0.out | assumption) (fail)
    go_wp2
    go_ret2
    rw [hcb]
    exact ⟨Or.inl ⟨q, rfl, by rw [hm]; rfl⟩, HB1.out.drew⟩
  · obtain ⟨o, h1, h2, h3, h4, h5⟩ := hc
    rw [hN] at h4
    have H0 : Hid (w1.drew.cell? ⟨cb, 0, none⟩ = some (.slice (some ⟨bb, o, none⟩) (N - q) (N - q)) ∧ w1.drew.cell? ⟨cb, 1, none⟩ = some (.bool false)) := ⟨cell_of_block h4 0, cell_of_block h4 1⟩
    clear h1 h4 h5
    generalize hm : N - q = m at *
    go_wp2
    go_region_held3 (fun w' => w'.cell? ⟨cb, 0, none⟩ = some (.slice (some ⟨bb, o, none⟩) m m) ∧ w'.cell? ⟨cb, 1, none⟩ = some (.bool false)) (first | exact H0.out | assumption) (fail)
    go_wp2
    go_ret2
    rw [hcb]
    exact ⟨Or.inr ⟨rfl, m, rfl⟩, HB1.out.drew⟩

set_option maxRecDepth 20000 in
set_option maxHeartbeats 1000000 in
theorem value_nil (w : World) (cb : Nat) (d : Int) (h : w.heap[cb]? = some (.cells #[.slice none 0 0, .bool true] 46 (0, 0))) :
    Calls Try.prog 31 #[Ptr cb, .int .i64 d] w fun e w' => e = .returned (.tuple #[]) ∧ w'.heap[cb]? = some (.cells #[.slice none 0 0, .bool false] 46 (0, 0)) ∧ Below cb w w' := by
  have c0 : w.cell? ⟨cb, 0, none⟩ = some (.slice none 0 0) := cell_of_block h 0
  have c1 : w.cell? ⟨cb, 1, none⟩ = some (.bool true) := cell_of_block h 1
  have f1 := frozen_of_block h 1
  have H : Hid _ := heap_setCell_at h (o := 1) (.bool false)
  clear h
  go_enter Try.func31, Try.ntmps31
  go_wp2
  (try simp only [Exit.inBlock, Exit.then])
  refine bodyPost_ret (results_none rfl _ _ _) rfl ?_
  exact ⟨rfl, H.out, bset _ _ _ _⟩
set_option maxRecDepth 20000 in
set_option maxHeartbeats 1000000 in
theorem ZZValue_nil (w : World) (d : Int) :
    Calls Try.prog 24 #[.slice none 0 0, .bool true, .int .i64 d] w fun e w' => e = .returned (.tuple #[.int .i64 0, .bool false]) ∧ Below w.heap.size w w' := by
  have HB0 : Hid (Below w.heap.size w (w.alloc (.cells #[.slice none 0 0, .bool true] 46))) := (Below.refl _ _).alloc (Nat.le_refl _) _
  have HV : Hid (Calls Try.prog 31 #[Ptr w.heap.size, .int .i64 d] (w.alloc (.cells #[.slice none 0 0, .bool true] 46)) _) := value_nil _ w.heap.size d (heap_alloc_new _ _)
  go_enter Try.func24, Try.ntmps24
  go_wp2_with fail
  refine Calls.mono HV.out ?_
  rintro e w1 ⟨rfl, h4, hb1⟩
  have HB1 : Hid (Below w.heap.size w w1) := HB0.out.trans hb1
  clear HV HB0 hb1
  generalize hcb : w.heap.size = cb at *
  have H0 : Hid (w1.drew.cell? ⟨cb, 0, none⟩ = some (.slice none 0 0) ∧ w1.drew.cell? ⟨cb, 1, none⟩ = some (.bool false)) := ⟨cell_of_block h4 0, cell_of_block h4 1⟩
  clear h4
  go_wp2
  go_region_held3 (fun w' => w'.cell? ⟨cb, 0, none⟩ = some (.slice none 0 0) ∧ w'.cell? ⟨cb, 1, none⟩ = some (.bool false)) (first | exact H0.out | assumption) (fail)
  go_wp2
  go_ret2
  rw [hcb]
  exact ⟨rfl, HB1.out.drew⟩

set_option maxRecDepth 20000 in
set_option maxHeartbeats 2000000 in
theorem shallower_law (w : World) (a0 : Option Addr) (n c0 : Nat) (L : List Int) (hL : L.length = n) (hn : n ≤ maxLen) (ha : SV w a0 L) (hnil : a0 = none → n = 0 ∧ c0 = 0)
    (d e : Int) (hd : -9223372036854775808 ≤ d ∧ d ≤ 9223372036854775807) (he : -9223372036854775808 ≤ e ∧ e ≤ 9223372036854775807) :
    Calls Try.prog 8 #[.slice a0 n c0, .int .i64 d, .int .i64 e] w fun r w' => r = .returned (.bool true) ∧ Below w.heap.size w w' := by
  have hZ := zzBytes26 w a0 n c0 d e hn
  unfold maxLen at hn
  go_enter Try.func8, Try.ntmps8
  go_wp2_with fail
  refine hZ.mono ?_
  rintro r w' ⟨hr, rfl⟩
  clear hZ
  rcases hr with rfl | rfl
  rotate_left
  · go_wp2
    go_ret
    exact ⟨rfl, Below.refl _ _⟩
  by_cases hn1 : n ≤ 1048576
  rotate_left
  · go_wp2
    go_ret
    exact ⟨rfl, Below.refl _ _⟩
  by_cases hd1 : 32 < d
  · go_wp2
    go_ret
    exact ⟨rfl, Below.refl _ _⟩
  by_cases he1 : d < e
  · go_wp2
    go_ret
    exact ⟨rfl, Below.refl _ _⟩
  have hC := clone_any w' a0 n c0 L hL (by omega) ha hnil
  clear ha hnil
  go_wp2_with fail
  refine hC.mono ?_
  rintro r w1 ⟨a1, rfl, -, hform, hb1⟩
  clear hC
  rcases hform with ⟨rfl, rfl⟩ | ⟨rfl, hR⟩
  · have hz := ZZValue_nil w1 d
    go_wp2_with fail
    refine hz.mono ?_
    rintro r w2 ⟨rfl, hb2⟩
    go_wp2
    go_ret
    exact ⟨rfl, hb1.trans (hb2.mono hb1.size)⟩
  subst hL
  have hz := ZZValue_any w1 w'.heap.size L d (by omega) hR hd.1 (by omega)
  go_wp2_with fail
  refine hz.mono ?_
  rintro r w2 ⟨hp, hb2⟩
  have hb12 : Below w'.heap.size w' w2 := hb1.trans (hb2.mono hb1.size)
  rcases hp with ⟨q, hq, rfl⟩ | ⟨-, m, rfl⟩
  rotate_left
  · clear hz
    go_wp2
    go_ret
    exact ⟨rfl, hb12⟩
  have hze := ZZValue_any w2 w'.heap.size L e (by omega) (hR.later hb2) he.1 (by omega)
  rw [V_shallower L _ .val d e true 0 q (by omega) (by omega) (Or.inl rfl) hq] at hze
  have HB : Hid _ := hb12
  clear hz hq hb12 hb1 hb2 hR
  go_wp2_with fail
  refine hze.mono ?_
  rintro r w3 ⟨hp, hb3⟩
  rcases hp with ⟨q', hq', rfl⟩ | ⟨h, -⟩
  rotate_left
  · cases h
  cases hq'
  generalize L.length - q = mm at *
  go_wp2
  go_ret
  exact ⟨rfl, Below.trans HB.out (hb3.mono (Below.size HB.out))⟩
end Go.Proofs.Qxb6600744a
