import Derived.Test.Qxb6612554aEnds
namespace Go.Proofs.Qxb6612554a
open Go.ChangeShapes Go.WideShapes Go.ChangeAt Go.RowKit
set_option linter.unusedVariables false

theorem butI_succ (k i : Nat) : butI (k + 1) i = if k = i then butI k i else butI k i ++ [k] := by
  rw [butI_filter, butI_filter, List.range_succ, List.filter_append]
  by_cases e : k = i
  · subst e; simp
  · simp [e]
theorem butI_le (k i : Nat) : (butI k i).length ≤ k := by
  rw [butI_filter]
  have := List.length_filter_le (fun j => j != i) (List.range k)
  simpa using this

set_option maxRecDepth 20000 in
set_option maxHeartbeats 1600000 in
/-- 'without(n, skip)' -/
theorem without_any (w : World) (n i : Nat) (hn : n ≤ 16384) (hi : i < 1000000) :
    Calls Try.prog 33 #[.int .i64 n, .int .i64 i] w fun e w' => e = .returned (.slice (some ⟨w.heap.size, 0, none⟩) (butI n i).length n) ∧ RowI w.heap.size n (butI n i) w' ∧ Below w.heap.size w w' := by
  obtain ⟨Zl, hZl, hmk⟩ := make31 n (by omega) w
  have HR0 : Hid (RowI w.heap.size n [] (w.alloc (.cells Zl.toArray 3))) := ⟨Zl, heap_alloc_new _ _, by simpa using hZl⟩
  have HBW : Hid (Below w.heap.size w (w.alloc (.cells Zl.toArray 3))) := (Below.refl _ _).alloc (Nat.le_refl _) _
  clear hZl
  go_enter Try.func33, Try.ntmps33
  go_wp2
  generalize hq : w.heap.size = q at *
  clear hmk
  go_loopw [5, 6] (fun t u wx => ∃ k : Nat, k ≤ n ∧ u = .int .i64 k ∧ t = .slice (some ⟨q, 0, none⟩) (butI k i).length n ∧ RowI q n (butI k i) wx ∧ Below q w wx) (fun _ u _ => n - (intOf u).toNat)
  case atStart => exact ⟨0, Nat.zero_le _, rfl, rfl, HR0.out, HBW.out⟩
  case round =>
    obtain ⟨k, hk, rfl, rfl, hrow, hbx⟩ := hrel
    have HRow : Hid (RowI q n (butI k i) wr) := hrow
    have HBX : Hid (Below q w wr) := hbx
    clear hrow hbx HR0 HBW
    have hll := butI_le k i
    by_cases hin : k < n
    · have hinI : (k : Int) < n := by omega
      have HLS : Hid _ := butI_succ k i
      by_cases he : k = i
      · subst he
        go_wp2
        go_roundw
        case rel =>
          have e : butI (k + 1) k = butI k k := by rw [HLS.out, if_pos rfl]
          exact ⟨k + 1, by omega, by go_num, by rw [e], by rw [e]; exact HRow.out, HBX.out⟩
        case measure => simp [intOf]; omega
      · have heI : ¬ (k : Int) = i := by omega
        have HR1 : Hid (RowI q n (butI k i) (wr.alloc (.cells #[.int .i64 (k : Int)] 3))) := HRow.out.later ((Below.refl _ _).alloc (Nat.le_refl _) _)
        go_wp2_with (refine wpList_append31 (i := k) (g := q) (lim := n) (L := butI k i) (by rfl) (.tmp 17) (.tmp 19) (by rfl) (by rfl) (by rfl) (by rfl) HR1.out (by omega) ?_; intro W2 hrow2 hfr2)
        have HN : Hid (RowI q n (butI k i ++ [k]) W2 ∧ Below q w W2) := by
          refine ⟨hrow2, HBX.out.trans ?_⟩
          have hqx := HRow.out.lt
          exact (((Below.refl _ _).alloc (by omega) _).trans (hfr2.below (by simp; omega) (fun k e => by omega)))
        clear hrow2 hfr2 HR1
        go_wp2
        go_roundw
        case rel =>
          have e : butI (k + 1) i = butI k i ++ [k] := by rw [HLS.out, if_neg he]
          exact ⟨k + 1, by omega, by go_num, by rw [e]; simp, by rw [e]; exact HN.out.1, HN.out.2⟩
        case measure => simp [intOf]; omega
    · obtain rfl : k = n := by omega
      go_wp2
      go_ret
      subst hq
      exact ⟨rfl, HRow.out, HBX.out⟩

set_option maxHeartbeats 800000 in
/-- 'movedToBack(n, i)' -/
theorem moved_any (w : World) (n i : Nat) (hn : n ≤ 16384) (hi : i < n) :
    Calls Try.prog 24 #[.int .i64 n, .int .i64 i] w fun e w' => e = .returned (.slice (some ⟨w.heap.size, 0, none⟩) (butI n i ++ [i]).length n) ∧ RowI w.heap.size n (butI n i ++ [i]) w' ∧ Below w.heap.size w w' := by
  have hC := without_any w n i hn (by omega)
  have hl : (butI n i).length < n := by rw [butI_length hi]; omega
  go_enter Try.func24, Try.ntmps24
  go_wp2_with fail
  refine hC.mono ?_
  rintro e w1 ⟨rfl, hrow, hb⟩
  clear hC
  have HRow : Hid _ := hrow
  have HB : Hid _ := hb
  have HR1 : Hid (RowI w.heap.size n (butI n i) (w1.alloc (.cells #[.int .i64 (i : Int)] 3))) := RowI.later hrow ((Below.refl _ _).alloc (Nat.le_refl _) _)
  have hqx := RowI.lt hrow
  clear hrow hb
  generalize hq : w.heap.size = q at *
  go_wp2_with (refine wpList_append31 (i := i) (g := q) (lim := n) (L := butI n i) (by rfl) (.tmp 9) (.tmp 11) (by rfl) (by rfl) (by rfl) (by rfl) HR1.out (by omega) ?_; intro W2 hrow2 hfr2)
  have HN : Hid (RowI q n (butI n i ++ [i]) W2 ∧ Below q w W2) := by
    refine ⟨hrow2, HB.out.trans ?_⟩
    exact (((Below.refl _ _).alloc (by omega) _).trans (hfr2.below (by simp; omega) (fun k e => by omega)))
  clear hrow2 hfr2 HR1
  go_wp2
  go_ret
  subst hq
  exact ⟨by rw [List.length_append]; rfl, HN.out.1, HN.out.2⟩
end Go.Proofs.Qxb6612554a
