import Derived.Test.Qxb6612554aWants
namespace Go.Proofs.Qxb6612554a
open Go.ChangeShapes Go.WideShapes Go.ChangeAt Go.RowKit
set_option linter.unusedVariables false

/-- A slice of entries in a block of its own. -/
structure EsB (w : World) (g n : Nat) (R : Nat → Rec) : Prop where
  blk : ∃ cs : Array Value, w.heap[g]? = some (.cells cs 40 (0, 0)) ∧ cs.size = n * 4
  at0 : EsAt w g 0 n R
theorem EsB.fz {w : World} {g n : Nat} {R : Nat → Rec} (h : EsB w g n R) (o : Nat) : w.frozen? ⟨g, o, none⟩ = false := by
  obtain ⟨cs, hc, _⟩ := h.blk
  exact frozen_of_block hc o
theorem EsB.lt {w : World} {g n : Nat} {R : Nat → Rec} (h : EsB w g n R) : g < w.heap.size := by
  obtain ⟨cs, hc, _⟩ := h.blk
  exact lt_of_heap hc
theorem EsB.esV {w : World} {g n : Nat} {R : Nat → Rec} (h : EsB w g n R) : EsV w (some ⟨g, 0, none⟩) n R := fun _ => ⟨g, 0, rfl, h.at0⟩
theorem EsB.c {w : World} {g n : Nat} {R : Nat → Rec} (h : EsB w g n R) {i : Nat} (hi : i < n) :
    w.cell? ⟨g, i * 4, none⟩ = some (.int .i64 (R i).f) ∧ w.cell? ⟨g, i * 4 + 1, none⟩ = some (.int .i64 (R i).lf) ∧ w.cell? ⟨g, i * 4 + 2, none⟩ = some (.int .i64 (R i).la) ∧ w.cell? ⟨g, i * 4 + 3, none⟩ = some (.int .i64 (R i).fl) := by
  have := h.at0 i hi
  simpa using this
theorem EsB.later {w w' : World} {g n : Nat} {R : Nat → Rec} (h : EsB w g n R) (hb : Below w.heap.size w w') : EsB w' g n R := by
  obtain ⟨cs, hc, hs⟩ := h.blk
  refine ⟨⟨cs, by rw [hb.block _ (lt_of_heap hc)]; exact hc, hs⟩, fun i hi => ?_⟩
  obtain ⟨a, b, c, d⟩ := h.at0 i hi
  exact ⟨cell_later hb a, cell_later hb b, cell_later hb c, cell_later hb d⟩
/-- One cell written: R' where the records are as they now read. -/
theorem EsB.set {w : World} {g n i c : Nat} {v : Value} {R R' : Nat → Rec} (h : EsB w g n R) (hi : i < n) (hc : c < 4) (hne : ∀ j, j ≠ i → R' j = R j)
    (h0 : some (Value.int .i64 (R' i).f) = if c = 0 then some v else some (.int .i64 (R i).f)) (h1 : some (Value.int .i64 (R' i).lf) = if c = 1 then some v else some (.int .i64 (R i).lf))
    (h2 : some (Value.int .i64 (R' i).la) = if c = 2 then some v else some (.int .i64 (R i).la)) (h3 : some (Value.int .i64 (R' i).fl) = if c = 3 then some v else some (.int .i64 (R i).fl)) :
    EsB (w.setCell ⟨g, i * 4 + c, none⟩ v) g n R' := by
  obtain ⟨cs, hb, hs⟩ := h.blk
  have hset := heap_setCell_at (o := i * 4 + c) hb v
  have cell : ∀ o, (w.setCell ⟨g, i * 4 + c, none⟩ v).cell? ⟨g, o, none⟩ = if o = i * 4 + c then some v else w.cell? ⟨g, o, none⟩ := by
    intro o
    rw [cell_of_block hset, cell_of_block hb, Array.getElem?_setIfInBounds]
    by_cases e : i * 4 + c = o
    · subst e
      simp only [if_true]
      rw [if_pos (by omega)]
    · rw [if_neg e, if_neg (fun e' => e e'.symm)]
  refine ⟨⟨_, hset, by simpa using hs⟩, fun j hj => ?_⟩
  obtain ⟨a0, a1, a2, a3⟩ := h.at0 j hj
  simp only [cell]
  by_cases e : j = i
  · subst e
    rw [h0, h1, h2, h3]
    refine ⟨?_, ?_, ?_, ?_⟩
    · by_cases ec : c = 0
      · subst ec; simp
      · rw [if_neg (by omega), if_neg ec]; exact a0
    · by_cases ec : c = 1
      · subst ec; simp
      · rw [if_neg (by omega), if_neg ec]; exact a1
    · by_cases ec : c = 2
      · subst ec; simp
      · rw [if_neg (by omega), if_neg ec]; exact a2
    · by_cases ec : c = 3
      · subst ec; simp
      · rw [if_neg (by omega), if_neg ec]; exact a3
  · rw [hne j e, if_neg (by omega), if_neg (by omega), if_neg (by omega), if_neg (by omega)]
    exact ⟨a0, a1, a2, a3⟩

/-- The first k copied. -/
def mixR (R : Nat → Rec) (k : Nat) : Nat → Rec := fun i => if i < k then R i else ⟨0, 0, 0, 0⟩
theorem EsB.copy {w : World} {g n k : Nat} {R : Nat → Rec} (h : EsB w g n (mixR R k)) (hk : k < n) :
    EsB ((((w.setCell ⟨g, k * 4, none⟩ (.int .i64 (R k).f)).setCell ⟨g, k * 4 + 1, none⟩ (.int .i64 (R k).lf)).setCell ⟨g, k * 4 + 2, none⟩ (.int .i64 (R k).la)).setCell ⟨g, k * 4 + 3, none⟩ (.int .i64 (R k).fl)) g n (mixR R (k + 1)) := by
  have hz : mixR R k k = ⟨0, 0, 0, 0⟩ := by simp [mixR]
  have s0 := h.set (R' := fun j => if j = k then ⟨(R k).f, 0, 0, 0⟩ else mixR R k j) hk (c := 0) (v := .int .i64 (R k).f) (by omega) (fun j e => by simp [e]) (by simp) (by simp [hz]) (by simp [hz]) (by simp [hz])
  have s1 := s0.set (R' := fun j => if j = k then ⟨(R k).f, (R k).lf, 0, 0⟩ else mixR R k j) hk (c := 1) (v := .int .i64 (R k).lf) (by omega) (fun j e => by simp [e]) (by simp) (by simp) (by simp) (by simp)
  have s2 := s1.set (R' := fun j => if j = k then ⟨(R k).f, (R k).lf, (R k).la, 0⟩ else mixR R k j) hk (c := 2) (v := .int .i64 (R k).la) (by omega) (fun j e => by simp [e]) (by simp) (by simp) (by simp) (by simp)
  have s3 := s2.set (R' := mixR R (k + 1)) hk (c := 3) (v := .int .i64 (R k).fl) (by omega) (fun j e => by
    simp only [mixR, e, if_false]
    by_cases hj : j < k
    · rw [if_pos hj, if_pos (by omega)]
    · rw [if_neg hj, if_neg (by omega)]) (by simp [mixR]) (by simp [mixR]) (by simp [mixR]) (by simp [mixR])
  exact s3

theorem info40 : (Try.prog.info? 40).map (fun i => (i.zero, i.size, i.bytes)) = some (some (.agg #[.int .i64 0, .int .i64 0, .int .i64 0, .int .i64 0]), 4, 32) := by kernel_rfl
theorem made4 (v : Value) (m j : Nat) (hj : j < m) : (madeCells #[v, v, v, v] m)[j]? = some v := by
  have h4 : j % 4 = 0 ∨ j % 4 = 1 ∨ j % 4 = 2 ∨ j % 4 = 3 := by omega
  have : (madeCells #[v, v, v, v] m)[j]? = some ((#[v, v, v, v] : Array Value)[j % 4]!) := by
    simp [madeCells, hj]
  rw [this]
  rcases h4 with e | e | e | e <;> rw [e] <;> rfl
theorem make22 (n : Nat) (hn : n ≤ 16384) (R : Nat → Rec) (w : World) : ∃ cs : Array Value, (Instr.makeSlice 22 (.int .i64 n) (.int .i64 n)).run Try.prog w = .ok (.slice (some ⟨w.heap.size, 0, none⟩) n n) (w.alloc (.cells cs 40)) ∧ EsB (w.alloc (.cells cs 40)) w.heap.size n (mixR R 0) := by
  obtain ⟨i0, hi, hz0, hz1, hz2⟩ := info_parts info40
  have := run_make (P := Try.prog) w 22 40 i0 (.agg #[.int .i64 0, .int .i64 0, .int .i64 0, .int .i64 0]) Try.underlying22 hi hz0 .i64 .i64 n n (by omega) (by omega) (by rw [hz2]; omega) (by omega)
  rw [hz1] at this
  refine ⟨_, this, ⟨_, heap_alloc_new _ _, ?_⟩, ?_⟩
  · simp [size_madeCells]
  · intro i hi
    have hcell : ∀ o, o < n * 4 → (w.alloc (.cells (madeCells (Value.cells (.agg #[.int .i64 0, .int .i64 0, .int .i64 0, .int .i64 0])) ((n : Int).toNat * 4)) 40)).cell? ⟨w.heap.size, o, none⟩ = some (.int .i64 0) := by
      intro o ho
      rw [cell_of_block (heap_alloc_new _ _)]
      exact made4 (.int .i64 0) _ o (by simpa using ho)
    exact ⟨hcell _ (by omega), hcell _ (by omega), hcell _ (by omega), hcell _ (by omega)⟩

set_option maxRecDepth 20000 in
set_option maxHeartbeats 1600000 in
/-- 'copyEntries(es)' -/
theorem copy_any (w : World) (a : Option Addr) (n c0 : Nat) (R : Nat → Rec) (hn : n ≤ 16384) (h0 : EsV w a n R) :
    Calls Try.prog 23 #[.slice a n c0] w fun e w' => e = .returned (.slice (some ⟨w.heap.size, 0, none⟩) n n) ∧ EsB w' w.heap.size n R ∧ Below w.heap.size w w' := by
  obtain ⟨cs, hmk, hE⟩ := make22 n hn R w
  have HE0 : Hid _ := hE
  have HB0 : Hid (Below w.heap.size w (w.alloc (.cells cs 40))) := (Below.refl _ _).alloc (Nat.le_refl _) _
  have H0 : Hid _ := h0
  clear hE h0
  go_enter Try.func23, Try.ntmps23
  go_wp2
  generalize hq : w.heap.size = q at *
  clear hmk
  go_loopw [4] (fun t wr => ∃ k : Nat, k ≤ n ∧ t = .int .i64 k ∧ EsB wr q n (mixR R k) ∧ Below q w wr) (fun t _ => n - (intOf t).toNat)
  case atStart => exact ⟨0, Nat.zero_le _, rfl, HE0.out, HB0.out⟩
  case round =>
    obtain ⟨k, hk, rfl, hes, hbx⟩ := hrel
    have HS : Hid _ := hes
    have HBX : Hid (Below q w wr) := hbx
    by_cases hlt : k < n
    · obtain ⟨b, off, rfl, hsrc⟩ := H0.out (by omega)
      obtain ⟨s0, s1, s2, s3⟩ := hsrc k hlt
      have hbx' : Below w.heap.size w wr := by rw [hq]; exact hbx
      have s0' := cell_later hbx' s0
      have s1' := cell_later hbx' s1
      have s2' := cell_later hbx' s2
      have s3' := cell_later hbx' s3
      obtain ⟨d0, d1, d2, d3⟩ := hes.c hlt
      have f0 := hes.fz (k * 4)
      have f1 := hes.fz (k * 4 + 1)
      have f2 := hes.fz (k * 4 + 2)
      have f3 := hes.fz (k * 4 + 3)
      have hkI : (k : Int) < n := by omega
      have HN : Hid _ := hes.copy hlt
      clear s0 s1 s2 s3 hsrc hes hbx hbx'
      go_wp2
      go_roundw
      case rel => exact ⟨k + 1, by omega, by go_num, HN.out, (((HBX.out.setCell (Nat.le_refl _) _).setCell (Nat.le_refl _) _).setCell (Nat.le_refl _) _).setCell (Nat.le_refl _) _⟩
      case measure => simp [intOf]; omega
    · obtain rfl : k = n := by omega
      clear hes hbx
      go_wp2
      go_ret
      subst hq
      refine ⟨rfl, ?_, HBX.out⟩
      have e : ∀ i, i < k → mixR R k i = R i := fun i hi => by simp [mixR, hi]
      refine ⟨HS.out.blk, fun i hi => ?_⟩
      have := HS.out.at0 i hi
      rw [e i hi] at this
      exact this
end Go.Proofs.Qxb6612554a
