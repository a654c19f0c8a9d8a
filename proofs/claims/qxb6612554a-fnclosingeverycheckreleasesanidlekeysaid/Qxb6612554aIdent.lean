import Derived.Test.Qxb6612554aCopy
namespace Go.Proofs.Qxb6612554a
open Go.ChangeShapes Go.WideShapes Go.ChangeAt Go.RowKit
set_option linter.unusedVariables false

/-- 'make([]int, n)' -/
theorem make31n (n : Nat) (hn : n ≤ 20000) (w : World) : ∃ Z : List Value, Z.length = n ∧ (Instr.makeSlice 31 (.int .i64 n) (.int .i64 n)).run Try.prog w = .ok (.slice (some ⟨w.heap.size, 0, none⟩) n n) (w.alloc (.cells Z.toArray 3)) := by
  obtain ⟨i0, hi, hz0, hz1, hz2⟩ := info_parts info3
  have := run_make (P := Try.prog) w 31 3 i0 (.int .i64 0) Try.underlying31 hi hz0 .i64 .i64 n n (by omega) (by omega) (by rw [hz2]; omega) (by omega)
  refine ⟨(madeCells (Value.cells (.int .i64 0)) (n * 1)).toList, by simp [size_madeCells], ?_⟩
  rw [this, hz1]
  simp

theorem RowI.put {g n k : Nat} {w : World} (h : RowI g n (List.range k) w) (hk : k < n) : RowI g n (List.range (k + 1)) (w.setCell ⟨g, k, none⟩ (.int .i64 (k : Int))) := by
  have := h.push (by simpa using hk) k
  rw [List.range_succ]
  have e : w.setCells g (0 + (List.range k).length * 1) [.int .i64 (k : Int)] = w.setCell ⟨g, k, none⟩ (.int .i64 (k : Int)) := by
    simp [World.setCells]
  rw [e] at this
  exact this
theorem RowI.there {g n k : Nat} {w : World} {L : List Nat} (h : RowI g n L w) (hl : L.length = k) (hk : k < n) : (∃ v, w.cell? ⟨g, k, none⟩ = some v) ∧ w.frozen? ⟨g, k, none⟩ = false := by
  obtain ⟨Z, h1, h2⟩ := h
  refine ⟨?_, frozen_of_block h1 k⟩
  rw [cell_of_block h1]
  refine ⟨_, Array.getElem?_eq_getElem (by simp; omega)⟩

set_option maxRecDepth 20000 in
set_option maxHeartbeats 1600000 in
/-- 'identity(n)' -/
theorem identity_any (w : World) (n : Nat) (hn : n ≤ 16384) :
    Calls Try.prog 37 #[.int .i64 n] w fun e w' => e = .returned (.slice (some ⟨w.heap.size, 0, none⟩) n n) ∧ RowI w.heap.size n (List.range n) w' ∧ Below w.heap.size w w' := by
  obtain ⟨Zl, hZl, hmk⟩ := make31n n (by omega) w
  have HR0 : Hid (RowI w.heap.size n (List.range 0) (w.alloc (.cells Zl.toArray 3))) := ⟨Zl, heap_alloc_new _ _, by simpa using hZl⟩
  have HBW : Hid (Below w.heap.size w (w.alloc (.cells Zl.toArray 3))) := (Below.refl _ _).alloc (Nat.le_refl _) _
  clear hZl
  go_enter Try.func37, Try.ntmps37
  go_wp2
  generalize hq : w.heap.size = q at *
  clear hmk
  go_loopw [4] (fun t wr => ∃ k : Nat, k ≤ n ∧ t = .int .i64 k ∧ RowI q n (List.range k) wr ∧ Below q w wr) (fun t _ => n - (intOf t).toNat)
  case atStart => exact ⟨0, Nat.zero_le _, rfl, HR0.out, HBW.out⟩
  case round =>
    obtain ⟨k, hk, rfl, hrow, hbx⟩ := hrel
    have HRow : Hid (RowI q n (List.range k) wr) := hrow
    have HBX : Hid (Below q w wr) := hbx
    by_cases hlt : k < n
    · obtain ⟨⟨v, hv⟩, hf⟩ := RowI.there hrow (by simp) hlt
      have hkI : (k : Int) < n := by omega
      have HN : Hid _ := RowI.put hrow hlt
      clear hrow hbx HR0 HBW
      go_wp2
      go_roundw
      case rel => exact ⟨k + 1, by omega, by go_num, HN.out, HBX.out.setCell (Nat.le_refl _) _⟩
      case measure => simp [intOf]; omega
    · obtain rfl : k = n := by omega
      clear hrow hbx
      go_wp2
      go_ret
      subst hq
      exact ⟨rfl, HRow.out, HBX.out⟩
end Go.Proofs.Qxb6612554a
