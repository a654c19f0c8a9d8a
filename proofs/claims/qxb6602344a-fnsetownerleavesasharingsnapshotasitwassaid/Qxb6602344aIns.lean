import Derived.Test.Qxb6602344aGroups
namespace Go.Proofs.Qxb6602344a
open Go.ChangeShapes Go.WideShapes Go.ChangeAt Go.RowKit
set_option linter.unusedVariables false
set_option linter.unusedSimpArgs false

/-- A grant. -/
structure Gr where
  g : ByteArray
  p : ByteArray
  o : ByteArray
  t : Bool
/-- A slice of strings. -/
def StrV (w : World) (a : Option Addr) (n : Nat) (S : Nat → ByteArray) : Prop := 0 < n → ∃ b off, a = some ⟨b, off, none⟩ ∧ ∀ i, i < n → w.cell? ⟨b, off + i, none⟩ = some (.string (S i))
/-- A slice of grants. -/
def GrV (w : World) (a : Option Addr) (n : Nat) (R : Nat → Gr) : Prop := 0 < n → ∃ b off, a = some ⟨b, off, none⟩ ∧ ∀ i, i < n → w.cell? ⟨b, off + i * 4, none⟩ = some (.string (R i).g) ∧ w.cell? ⟨b, off + i * 4 + 1, none⟩ = some (.string (R i).p) ∧ w.cell? ⟨b, off + i * 4 + 2, none⟩ = some (.string (R i).o) ∧ w.cell? ⟨b, off + i * 4 + 3, none⟩ = some (.bool (R i).t)
theorem StrV.later {w w' : World} {a : Option Addr} {n : Nat} {S : Nat → ByteArray} (h : StrV w a n S) (hb : Below w.heap.size w w') : StrV w' a n S := by
  intro hn
  obtain ⟨b, off, rfl, hc⟩ := h hn
  exact ⟨b, off, rfl, fun i hi => cell_later hb (hc i hi)⟩
theorem GrV.later {w w' : World} {a : Option Addr} {n : Nat} {R : Nat → Gr} (h : GrV w a n R) (hb : Below w.heap.size w w') : GrV w' a n R := by
  intro hn
  obtain ⟨b, off, rfl, hc⟩ := h hn
  exact ⟨b, off, rfl, fun i hi => ⟨cell_later hb (hc i hi).1, cell_later hb (hc i hi).2.1, cell_later hb (hc i hi).2.2.1, cell_later hb (hc i hi).2.2.2⟩⟩

set_option maxRecDepth 20000 in
set_option maxHeartbeats 1000000 in
theorem addBytes_any (w : World) (a : Option Addr) (n c : Nat) (S : Nat → ByteArray) (total : Int) (hn : n ≤ 1048576) (ha : StrV w a n S) (h0 : 0 ≤ total) (h1 : total ≤ 100000000) :
    Calls Try.prog 27 #[.int .i64 total, .slice a n c] w fun e w' => (∃ r : Int, e = .returned (.int .i64 r) ∧ 0 ≤ r ∧ r ≤ 100000000) ∧ w' = w := by
  go_enter Try.func27, Try.ntmps27
  go_wp2
  go_loop [0, 5] (fun t u => ∃ (k : Nat) (s : Int), k ≤ n ∧ u = .int .i64 k ∧ t = .int .i64 s ∧ 0 ≤ s ∧ s ≤ 100000000) (fun _ u => n - (intOf u).toNat)
  case atStart => exact ⟨0, total, Nat.zero_le _, rfl, rfl, h0, h1⟩
  case round =>
    obtain ⟨k, s, hk, rfl, rfl, hs0, hs1⟩ := hrel
    by_cases hlt : k < n
    · obtain ⟨b, off, rfl, hc⟩ := ha (by omega)
      have c1 := hc k hlt
      have hkI : (k : Int) < n := by omega
      have hx0 : (0 : Int) ≤ (S k).size := by omega
      by_cases hs2 : 1048576 < s
      · go_wp2
        go_ret
        exact ⟨⟨1048577, rfl, by omega, by omega⟩, rfl⟩
      by_cases hx : 1048576 < (S k).size
      · have hxI : 1048576 < ((S k).size : Int) := by omega
        go_wp2
        go_ret
        exact ⟨⟨1048577, rfl, by omega, by omega⟩, rfl⟩
      have hxI : ((S k).size : Int) ≤ 1048576 := by omega
      have hxN : (S k).size ≤ 1048576 := by omega
      go_wp2
      go_round
      case rel => exact ⟨k + 1, s + (S k).size, by omega, by go_num, by go_num, by omega, by omega⟩
      case measure => simp [intOf]; omega
    · obtain rfl : k = n := by omega
      go_wp2
      go_ret
      exact ⟨⟨s, rfl, hs0, hs1⟩, rfl⟩

set_option maxRecDepth 20000 in
set_option maxHeartbeats 4000000 in
theorem fits_any (w : World) (s0 s1 s2 s3 : ByteArray) (a4 a5 a6 : Option Addr) (n4 n5 n6 c4 c5 c6 : Nat) (R : Nat → Gr) (S5 S6 : Nat → ByteArray)
    (h4 : GrV w a4 n4 R) (h5 : StrV w a5 n5 S5) (h6 : StrV w a6 n6 S6) (m4 : n4 ≤ maxLen) (m5 : n5 ≤ maxLen) (m6 : n6 ≤ maxLen) :
    Calls Try.prog 7 #[.string s0, .string s1, .string s2, .string s3, .slice a4 n4 c4, .slice a5 n5 c5, .slice a6 n6 c6] w fun e w' => ((e = .returned (.bool true) ∧ n4 ≤ 65536 ∧ n5 ≤ 65536 ∧ n6 ≤ 65536) ∨ e = .returned (.bool false)) ∧ Below w.heap.size w w' := by
  unfold maxLen at m4 m5 m6
  by_cases b4 : n4 ≤ 65536
  rotate_left
  · go_enter Try.func7, Try.ntmps7
    go_wp2
    all_goals
      go_ret
      first | exact ⟨rfl, Below.refl _ _⟩ | exact ⟨Or.inr rfl, Below.refl _ _⟩
  by_cases b5 : n5 ≤ 65536
  rotate_left
  · go_enter Try.func7, Try.ntmps7
    go_wp2
    all_goals
      go_ret
      first | exact ⟨rfl, Below.refl _ _⟩ | exact ⟨Or.inr rfl, Below.refl _ _⟩
  by_cases b6 : n6 ≤ 65536
  rotate_left
  · go_enter Try.func7, Try.ntmps7
    go_wp2
    all_goals
      go_ret
      first | exact ⟨rfl, Below.refl _ _⟩ | exact ⟨Or.inr rfl, Below.refl _ _⟩
  have z0 : (0 : Int) ≤ s0.size := by omega
  have z1 : (0 : Int) ≤ s1.size := by omega
  have z2 : (0 : Int) ≤ s2.size := by omega
  have z3 : (0 : Int) ≤ s3.size := by omega
  by_cases hx : (s0.size : Int) ≤ 1048576 ∧ (s1.size : Int) ≤ 1048576 ∧ (s2.size : Int) ≤ 1048576 ∧ (s3.size : Int) ≤ 1048576
  rotate_left
  · go_enter Try.func7, Try.ntmps7
    go_wp2
    all_goals first
      | (go_ret; exact ⟨Or.inr rfl, Below.refl _ _⟩)
      | (exfalso; omega)
  obtain ⟨x0, x1, x2, x3⟩ := hx
  generalize hz0 : (s0.size : Int) = y0 at *
  generalize hz1 : (s1.size : Int) = y1 at *
  generalize hz2 : (s2.size : Int) = y2 at *
  generalize hz3 : (s3.size : Int) = y3 at *
  go_enter Try.func7, Try.ntmps7
  go_wp2
  go_loopw [15, 16] (fun t u wr => ∃ (k : Nat) (s : Int), k ≤ n4 ∧ u = .int .i64 k ∧ t = .int .i64 s ∧ 0 ≤ s ∧ s ≤ 20000000 ∧ Below w.heap.size w wr) (fun _ u _ => n4 - (intOf u).toNat)
  case atStart => exact ⟨0, _, Nat.zero_le _, rfl, rfl, by omega, by omega, Below.refl _ _⟩
  case round =>
    obtain ⟨k, s, hk, rfl, rfl, hs0, hs1, hbel⟩ := hrel
    by_cases hlt : k < n4
    · obtain ⟨b, off, rfl, hc⟩ := h4 (by omega)
      obtain ⟨c0, c1, c2, c3⟩ := hc k hlt
      replace c0 := cell_later hbel c0
      replace c1 := cell_later hbel c1
      replace c2 := cell_later hbel c2
      replace c3 := cell_later hbel c3
      have hkI : (k : Int) < n4 := by omega
      have HB : Hid _ := hbel
      clear hbel
      by_cases hs2 : 1048576 < s
      · go_wp2
        go_ret
        exact ⟨Or.inr rfl, HB.out⟩
      generalize R k = r at *
      have w0 : (0 : Int) ≤ r.g.size := by omega
      have w1 : (0 : Int) ≤ r.p.size := by omega
      have w2 : (0 : Int) ≤ r.o.size := by omega
      by_cases hx : (r.g.size : Int) ≤ 1048576 ∧ (r.p.size : Int) ≤ 1048576 ∧ (r.o.size : Int) ≤ 1048576
      rotate_left
      · go_wp2
        all_goals first
          | (go_ret; exact ⟨Or.inr rfl, HB.out.alloc HB.out.size _⟩)
          | (go_ret; exact ⟨Or.inr rfl, Below.setCell (Below.setCell (Below.setCell (Below.setCell (HB.out.alloc HB.out.size _) HB.out.size _) HB.out.size _) HB.out.size _) HB.out.size _⟩)
          | (exfalso; omega)
      obtain ⟨x0, x1, x2⟩ := hx
      go_wp2
      go_roundw
      case rel => exact ⟨k + 1, s + (r.g.size + r.p.size + r.o.size), by omega, by go_num, by go_num, by omega, by omega, HB.out.alloc HB.out.size _⟩
      case measure => simp [intOf]; omega
    · obtain rfl : k = n4 := by omega
      have hA := addBytes_any wr a5 n5 c5 S5 s (by omega) (h5.later hbel) hs0 (by omega)
      have HB : Hid _ := hbel
      go_wp2_with fail
      refine hA.mono ?_
      rintro e w1 ⟨⟨r, rfl, hr0, hr1⟩, rfl⟩
      have hA2 := addBytes_any w1 a6 n6 c6 S6 r (by omega) (h6.later hbel) hr0 (by omega)
      clear hbel hA
      go_wp2_with fail
      refine hA2.mono ?_
      rintro e w2 ⟨⟨r2, rfl, hq0, hq1⟩, rfl⟩
      by_cases hr : r2 ≤ 1048576
      · have hd : decide (r2 ≤ 1048576) = true := decide_eq_true hr
        go_wp2
        go_ret
        exact ⟨Or.inl ⟨by simp [hr], b4, b5, b6⟩, HB.out⟩
      · go_wp2
        go_ret
        exact ⟨Or.inr (by simp [hr]), HB.out⟩
end Go.Proofs.Qxb6602344a
