import Derived.Test.Qxb6602344aIns
namespace Go.Proofs.Qxb6602344a
open Go.ChangeShapes Go.WideShapes Go.ChangeAt Go.RowKit
set_option linter.unusedVariables false
set_option linter.unusedSimpArgs false

set_option maxRecDepth 20000 in
set_option maxHeartbeats 4000000 in
theorem zzBytes22 (w : World) (s0 s1 s2 s3 : ByteArray) (a4 a5 a6 : Option Addr) (n4 n5 n6 c4 c5 c6 : Nat) (R : Nat → Gr) (S5 S6 : Nat → ByteArray)
    (h4 : GrV w a4 n4 R) (h5 : StrV w a5 n5 S5) (h6 : StrV w a6 n6 S6) (m4 : n4 ≤ maxLen) (m5 : n5 ≤ maxLen) (m6 : n6 ≤ maxLen) :
    Calls Try.prog 22 #[.string s0, .string s1, .string s2, .string s3, .slice a4 n4 c4, .slice a5 n5 c5, .slice a6 n6 c6] w fun e w' => (e = .returned (.bool true) ∨ e = .returned (.bool false)) ∧ w' = w := by
  unfold maxLen at m4 m5 m6
  go_enter Try.func22, Try.ntmps22
  go_wp2
  all_goals try (go_ret; exact ⟨Or.inr rfl, rfl⟩)
  go_loop [15, 16] (fun t u => ∃ (k : Nat) (s : Int), k ≤ n4 ∧ u = .int .i64 k ∧ t = .int .i64 s ∧ 0 ≤ s ∧ s ≤ 1048576) (fun _ u => n4 - (intOf u).toNat)
  case atStart => exact ⟨0, _, Nat.zero_le _, rfl, rfl, by omega, by omega⟩
  case round =>
    obtain ⟨k, s, hk, rfl, rfl, hs0, hs1⟩ := hrel
    by_cases hlt : k < n4
    · obtain ⟨b, off, rfl, hc⟩ := h4 (by omega)
      obtain ⟨d0, d1, d2, d3⟩ := hc k hlt
      have hkI : (k : Int) < n4 := by omega
      go_wp2
      all_goals try (go_ret; exact ⟨Or.inr rfl, rfl⟩)
      go_round
      case rel => exact ⟨k + 1, _, by omega, by go_num, rfl, by omega, by omega⟩
      case measure => simp [intOf]; omega
    · obtain rfl : k = n4 := by omega
      go_wp2
      all_goals try (go_ret; exact ⟨Or.inr rfl, rfl⟩)
      go_loop [15, 17] (fun t u => ∃ (k : Nat) (s : Int), k ≤ n5 ∧ u = .int .i64 k ∧ t = .int .i64 s ∧ 0 ≤ s ∧ s ≤ 1048576) (fun _ u => n5 - (intOf u).toNat)
      case atStart => exact ⟨0, _, Nat.zero_le _, rfl, rfl, by omega, by omega⟩
      case round =>
        obtain ⟨k5, s5, hk5, rfl, rfl, hs50, hs51⟩ := hrel
        by_cases hlt5 : k5 < n5
        · obtain ⟨b, off, rfl, hc⟩ := h5 (by omega)
          have d0 := hc k5 hlt5
          have hkI : (k5 : Int) < n5 := by omega
          go_wp2
          all_goals try (go_ret; exact ⟨Or.inr rfl, rfl⟩)
          go_round
          case rel => exact ⟨k5 + 1, _, by omega, by go_num, rfl, by omega, by omega⟩
          case measure => simp [intOf]; omega
        · obtain rfl : k5 = n5 := by omega
          go_wp2
          all_goals try (go_ret; exact ⟨Or.inr rfl, rfl⟩)
          go_loop [15, 18] (fun t u => ∃ (k : Nat) (s : Int), k ≤ n6 ∧ u = .int .i64 k ∧ t = .int .i64 s ∧ 0 ≤ s ∧ s ≤ 1048576) (fun _ u => n6 - (intOf u).toNat)
          case atStart => exact ⟨0, _, Nat.zero_le _, rfl, rfl, by omega, by omega⟩
          case round =>
            obtain ⟨k6, s6, hk6, rfl, rfl, hs60, hs61⟩ := hrel
            by_cases hlt6 : k6 < n6
            · obtain ⟨b, off, rfl, hc⟩ := h6 (by omega)
              have d0 := hc k6 hlt6
              have hkI : (k6 : Int) < n6 := by omega
              go_wp2
              all_goals try (go_ret; exact ⟨Or.inr rfl, rfl⟩)
              go_round
              case rel => exact ⟨k6 + 1, _, by omega, by go_num, rfl, by omega, by omega⟩
              case measure => simp [intOf]; omega
            · obtain rfl : k6 = n6 := by omega
              go_wp2
              go_ret
              exact ⟨Or.inl rfl, rfl⟩
end Go.Proofs.Qxb6602344a
