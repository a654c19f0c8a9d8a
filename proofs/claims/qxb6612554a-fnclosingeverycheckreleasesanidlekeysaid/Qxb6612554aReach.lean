import Derived.Test.Qxb6612554aPush
namespace Go.Proofs.Qxb6612554a
open Go.ChangeShapes Go.WideShapes Go.ChangeAt Go.RowKit
set_option linter.unusedVariables false

/-- Entries as they lie from ⟨b, off⟩ on. -/
def EsAt (w : World) (b off n : Nat) (R : Nat → Rec) : Prop :=
  ∀ i, i < n → w.cell? ⟨b, off + i * 4, none⟩ = some (.int .i64 (R i).f) ∧ w.cell? ⟨b, off + i * 4 + 1, none⟩ = some (.int .i64 (R i).lf) ∧ w.cell? ⟨b, off + i * 4 + 2, none⟩ = some (.int .i64 (R i).la) ∧ w.cell? ⟨b, off + i * 4 + 3, none⟩ = some (.int .i64 (R i).fl)

/-- no count is negative, and none has neither failure nor check -/
def reachR (R : Nat → Rec) (n : Nat) : Prop := ∀ i, i < n → 0 ≤ (R i).f ∧ 0 ≤ (R i).fl ∧ ¬ ((R i).f = 0 ∧ (R i).fl = 0)
theorem reachR.step {R : Nat → Rec} {k : Nat} (h : reachR R k) (h1 : 0 ≤ (R k).f) (h2 : 0 ≤ (R k).fl) (h3 : ¬ ((R k).f = 0 ∧ (R k).fl = 0)) : reachR R (k + 1) := by
  intro i hi
  by_cases e : i = k
  · subst e; exact ⟨h1, h2, h3⟩
  · exact h i (by omega)
def ReachPost (R : Nat → Rec) (n : Nat) (w : World) (e : Ending) (w' : World) : Prop := (e = .returned (.bool true) ∧ reachR R n ∧ w' = w) ∨ (e = .returned (.bool false) ∧ w' = w)

/-- A slice of entries. -/
def EsV (w : World) (a : Option Addr) (n : Nat) (R : Nat → Rec) : Prop := 0 < n → ∃ b off, a = some ⟨b, off, none⟩ ∧ EsAt w b off n R

set_option maxHeartbeats 1000000 in
theorem reachable_any (w : World) (a : Option Addr) (n cap : Nat) (R : Nat → Rec) (hn : n ≤ 16384) (ha : EsV w a n R) :
    Calls Try.prog 12 #[.slice a n cap] w (ReachPost R n w) := by
  go_enter Try.func12, Try.ntmps12
  go_wp2
  go_loop [3] (fun t => ∃ k : Nat, k ≤ n ∧ t = .int .i64 k ∧ reachR R k) (fun t => n - (intOf t).toNat)
  case atStart => exact ⟨0, Nat.zero_le _, rfl, fun i hi => by omega⟩
  case round =>
    obtain ⟨k, hk, rfl, hrc⟩ := hrel
    have HR : Hid (reachR R k) := hrc
    by_cases hlt : k < n
    · obtain ⟨b, off, rfl, he⟩ := ha (by omega)
      obtain ⟨c0, c1, c2, c3⟩ := he k hlt
      clear he hrc ha
      by_cases g1 : 0 ≤ (R k).f
      · by_cases g2 : 0 ≤ (R k).fl
        · by_cases g3 : ((R k).f = 0 ∧ (R k).fl = 0)
          · obtain ⟨g4, g5⟩ := g3
            go_wp2
            all_goals (go_ret; exact Or.inr ⟨rfl, rfl⟩)
          · have HG : Hid (¬ ((R k).f = 0 ∧ (R k).fl = 0)) := g3
            by_cases g4 : (R k).f = 0
            · have g5 : ((R k).fl == 0) = false := by
                rw [beq_eq_false_iff_ne]
                exact fun e => g3 ⟨g4, e⟩
              clear g3
              go_wp2
              go_round
              case rel => exact ⟨k + 1, by omega, by go_num, HR.out.step (by omega) g2 HG.out⟩
              case measure => simp [intOf]; omega
            · have g5 : ((R k).f == 0) = false := by rw [beq_eq_false_iff_ne]; exact g4
              clear g3
              go_wp2
              go_round
              case rel => exact ⟨k + 1, by omega, by go_num, HR.out.step g1 g2 HG.out⟩
              case measure => simp [intOf]; omega
        · go_wp2
          all_goals (go_ret; exact Or.inr ⟨rfl, rfl⟩)
      · go_wp2
        all_goals (go_ret; exact Or.inr ⟨rfl, rfl⟩)
    · clear hrc
      go_wp2
      go_ret
      have : k = n := by omega
      subst this
      exact Or.inl ⟨rfl, HR.out, rfl⟩

end Go.Proofs.Qxb6612554a
