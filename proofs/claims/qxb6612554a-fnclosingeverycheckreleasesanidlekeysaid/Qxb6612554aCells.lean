import Derived.Test.Qxb6612554aRows
import Derived.Test.Qxb6612554aNodes
import Derived.ProofKit
import Derived.Deep.RegionHeld3
import Derived.Deep.DrawnRows
import Derived.LaidEqlPtr
namespace Go.Proofs.Qxb6612554a
open Go.ChangeShapes Go.WideShapes Go.ChangeAt Go.RowKit
set_option linter.unusedVariables false

/-! ### Pointers compared -/
section
variable (w : World)
theorem ptr_equal {tp te : TypeId} {j : TypeInfo} (hp : Try.prog.underlying tp = some (.pointer te)) (hte : Try.prog.info? te = some j) (hsz : j.size ≠ 0) {a b : Nat} {ca cb : Array Value} {ta tb : TypeId}
    (ha : w.heap[a]? = some (.cells ca ta (0, 0))) (hb : w.heap[b]? = some (.cells cb tb (0, 0))) : (Op.equal tp (Ptr a) (Ptr b)).run Try.prog w = .ok (decide (a = b)) w := by
  by_cases e : a = b
  · subst e
    have h : ∀ d : Nat, (Op.equalIn (d + 1) tp (Ptr a) (Ptr a)).run Try.prog w = .ok true w := fun d => by
      simp [Op.equalIn, run_underlying hp, sizeOf, typeInfo, hte, run_sameAddr_same]
    rw [decide_eq_true rfl]; exact h 9999
  · have h : ∀ d : Nat, (Op.equalIn (d + 1) tp (Ptr a) (Ptr b)).run Try.prog w = .ok false w := fun d => by
      simp [Op.equalIn, run_underlying hp, sizeOf, typeInfo, hte, hsz, run_sameAddr_other w (a := ⟨a, 0, none⟩) (b := ⟨b, 0, none⟩) (by simp) ha hb]
    rw [decide_eq_false e]; exact h 9999
theorem equal_nil_left {tp te : TypeId} (hp : Try.prog.underlying tp = some (.pointer te)) (a : Addr) : (Op.equal tp (.pointer none) (.pointer (some a))).run Try.prog w = .ok false w := by
  have h : ∀ d : Nat, (Op.equalIn (d + 1) tp (.pointer none) (.pointer (some a))).run Try.prog w = .ok false w := fun d => by
    simp [Op.equalIn, run_underlying hp]
  exact h 9999
theorem eql_of {t : TypeId} {x y : Option Addr} {b : Bool} (h : (Op.equal t (.pointer x) (.pointer y)).run Try.prog w = .ok b w) : (binOp .eql t (.pointer x) (.pointer y)).run Try.prog w = .ok (.bool b) w := by
  simp only [binOp]
  simp [h]
theorem neq_of {t : TypeId} {x y : Option Addr} {b : Bool} (h : (Op.equal t (.pointer x) (.pointer y)).run Try.prog w = .ok b w) : (binOp .neq t (.pointer x) (.pointer y)).run Try.prog w = .ok (.bool (!b)) w := by
  simp only [binOp]
  simp [h]
theorem info97 : (Try.prog.info? 97).map (·.size) = some 4 := by kernel_rfl
theorem info110 : (Try.prog.info? 110).map (·.size) = some 5 := by kernel_rfl
theorem equal37 {a b : Nat} {ca cb : Array Value} {ta tb : TypeId} (ha : w.heap[a]? = some (.cells ca ta (0, 0))) (hb : w.heap[b]? = some (.cells cb tb (0, 0))) : (Op.equal 37 (Ptr a) (Ptr b)).run Try.prog w = .ok (decide (a = b)) w := by
  obtain ⟨j, h1, h2⟩ := Option.map_eq_some_iff.1 info97
  exact ptr_equal w Try.underlying37 h1 (by omega) ha hb
theorem equal89 {a b : Nat} {ca cb : Array Value} {ta tb : TypeId} (ha : w.heap[a]? = some (.cells ca ta (0, 0))) (hb : w.heap[b]? = some (.cells cb tb (0, 0))) : (Op.equal 89 (Ptr a) (Ptr b)).run Try.prog w = .ok (decide (a = b)) w := by
  obtain ⟨j, h1, h2⟩ := Option.map_eq_some_iff.1 info110
  exact ptr_equal w Try.underlying89 h1 (by omega) ha hb
end

/-! ### container/list: the walks, each store written out -/
set_option maxHeartbeats 400000 in
theorem insert_cells (bL eb ab nb : Nat) (n : Int) (v1 v2 v3 v4 : Value) (w : World)
    (ha : ab ≠ eb) (hn : nb ≠ eb) (hl : bL ≠ eb)
    (h0 : w.cell? ⟨eb, 0, none⟩ = some v1) (h1 : w.cell? ⟨eb, 1, none⟩ = some v2) (h2 : w.cell? ⟨eb, 2, none⟩ = some v3)
    (g0 : w.cell? ⟨ab, 0, none⟩ = some (.pointer (some ⟨nb, 0, none⟩))) (g1 : w.cell? ⟨nb, 1, none⟩ = some v4)
    (hL : w.cell? ⟨bL, 4, none⟩ = some (.int .i64 n))
    (f0 : w.frozen? ⟨eb, 0, none⟩ = false) (f1 : w.frozen? ⟨eb, 1, none⟩ = false) (f2 : w.frozen? ⟨eb, 2, none⟩ = false) 
    (f3 : w.frozen? ⟨ab, 0, none⟩ = false) (f4 : w.frozen? ⟨nb, 1, none⟩ = false) (f5 : w.frozen? ⟨bL, 4, none⟩ = false) 
    (n0 : 0 ≤ n) (n1 : n < 1000000) :
    Calls Try.prog 84 #[.pointer (some ⟨bL, 0, none⟩), .pointer (some ⟨eb, 0, none⟩), .pointer (some ⟨ab, 0, none⟩)] w fun e w' => e = .returned (.pointer (some ⟨eb, 0, none⟩)) ∧ 
      w' = (((((w.setCell ⟨eb, 1, none⟩ (.pointer (some ⟨ab, 0, none⟩))).setCell ⟨eb, 0, none⟩ (.pointer (some ⟨nb, 0, none⟩))).setCell ⟨ab, 0, none⟩ (.pointer (some ⟨eb, 0, none⟩))).setCell ⟨nb, 1, none⟩ (.pointer (some ⟨eb, 0, none⟩))).setCell ⟨eb, 2, none⟩ (.pointer (some ⟨bL, 0, none⟩))).setCell ⟨bL, 4, none⟩ (.int .i64 (n+1)) := by
  go_enter Try.func84, Try.ntmps84
  go_wp2
  go_ret
  exact ⟨rfl, rfl⟩

set_option maxHeartbeats 1000000 in
theorem remove_cells (bL eb ab nb : Nat) (n : Int) (v3 v4 v5: Value) (w : World)
    (ha : ab ≠ eb) (hn : nb ≠ eb) (hl : bL ≠ eb)
    (h0 : w.cell? ⟨eb, 0, none⟩ = some (.pointer (some ⟨nb, 0, none⟩))) (h1 : w.cell? ⟨eb, 1, none⟩ = some (.pointer (some ⟨ab, 0, none⟩))) (h2 : w.cell? ⟨eb, 2, none⟩ = some v3)
    (g0 : w.cell? ⟨ab, 0, none⟩ = some v5) (g1 : w.cell? ⟨nb, 1, none⟩ = some v4)
    (hL : w.cell? ⟨bL, 4, none⟩ = some (.int .i64 n))
    (f0 : w.frozen? ⟨eb, 0, none⟩ = false) (f1 : w.frozen? ⟨eb, 1, none⟩ = false) (f2 : w.frozen? ⟨eb, 2, none⟩ = false) 
    (f3 : w.frozen? ⟨ab, 0, none⟩ = false) (f4 : w.frozen? ⟨nb, 1, none⟩ = false) (f5 : w.frozen? ⟨bL, 4, none⟩ = false) 
    (n0 : 0 ≤ n) (n1 : n < 1000000) :
    Calls Try.prog 77 #[.pointer (some ⟨bL, 0, none⟩), .pointer (some ⟨eb, 0, none⟩)] w fun e w' => e = .returned (.tuple #[]) ∧ 
      Sim w' ((((((w.setCell ⟨ab, 0, none⟩ (.pointer (some ⟨nb, 0, none⟩))).setCell ⟨nb, 1, none⟩ (.pointer (some ⟨ab, 0, none⟩))).setCell ⟨eb, 0, none⟩ (.pointer none)).setCell ⟨eb, 1, none⟩ (.pointer none)).setCell ⟨eb, 2, none⟩ (.pointer none)).setCell ⟨bL, 4, none⟩ (.int .i64 (n-1))) := by
  go_enter Try.func77, Try.ntmps77
  go_wp2
  go_region_held3 (fun w' => w'.cell? ⟨eb, 0, none⟩ = some (.pointer (some ⟨nb, 0, none⟩)) ∧ w'.cell? ⟨eb, 1, none⟩ = some (.pointer (some ⟨ab, 0, none⟩))) (go_keep) (fail)
  go_wp2
  go_region_held3 (fun w' => w'.cell? ⟨eb, 0, none⟩ = some (.pointer (some ⟨nb, 0, none⟩)) ∧ w'.cell? ⟨eb, 1, none⟩ = some (.pointer (some ⟨ab, 0, none⟩))) (go_keep) (fail)
  go_wp2
  go_end0
  exact ⟨rfl, Sim.drew2 _⟩

set_option maxHeartbeats 1000000 in
theorem move_cells (bL eb ab nb tb : Nat) (v1 v4 v5: Value) (w : World)
    (ha : ab ≠ eb) (hn : nb ≠ eb) (hl : bL ≠ eb) (ht : tb ≠ eb) (hat : ab ≠ tb) (hnl : nb ≠ bL)
    (hcmp : (binOp .eql 37 (.pointer (some ⟨eb, 0, none⟩)) (.pointer (some ⟨tb, 0, none⟩))).run Try.prog w = .ok (.bool false) w)
    (h0 : w.cell? ⟨eb, 0, none⟩ = some (.pointer (some ⟨nb, 0, none⟩))) (h1 : w.cell? ⟨eb, 1, none⟩ = some (.pointer (some ⟨ab, 0, none⟩)))
    (g0 : w.cell? ⟨ab, 0, none⟩ = some v5) (g1 : w.cell? ⟨nb, 1, none⟩ = some v4)
    (k0 : w.cell? ⟨tb, 0, none⟩ = some (.pointer (some ⟨bL, 0, none⟩))) (k1 : w.cell? ⟨bL, 1, none⟩ = some v1) 
    (f0 : w.frozen? ⟨eb, 0, none⟩ = false) (f1 : w.frozen? ⟨eb, 1, none⟩ = false) (f2 : w.frozen? ⟨tb, 0, none⟩ = false) 
    (f3 : w.frozen? ⟨ab, 0, none⟩ = false) (f4 : w.frozen? ⟨nb, 1, none⟩ = false) (f5 : w.frozen? ⟨bL, 1, none⟩ = false) :
    Calls Try.prog 94 #[.pointer (some ⟨bL, 0, none⟩), .pointer (some ⟨eb, 0, none⟩), .pointer (some ⟨tb, 0, none⟩)] w fun e w' => e = .returned (.tuple #[]) ∧ 
      Sim w' ((((((w.setCell ⟨ab, 0, none⟩ (.pointer (some ⟨nb, 0, none⟩))).setCell ⟨nb, 1, none⟩ (.pointer (some ⟨ab, 0, none⟩))).setCell ⟨eb, 1, none⟩ (.pointer (some ⟨tb, 0, none⟩))).setCell ⟨eb, 0, none⟩ (.pointer (some ⟨bL, 0, none⟩))).setCell ⟨tb, 0, none⟩ (.pointer (some ⟨eb, 0, none⟩))).setCell ⟨bL, 1, none⟩ (.pointer (some ⟨eb, 0, none⟩))) := by
  go_enter Try.func94, Try.ntmps94
  go_wp2
  go_region_held3 (fun w' => w'.cell? ⟨eb, 0, none⟩ = some (.pointer (some ⟨nb, 0, none⟩)) ∧ w'.cell? ⟨eb, 1, none⟩ = some (.pointer (some ⟨ab, 0, none⟩))) (go_keep) (fail)
  go_wp2
  go_region_held3 (fun w' => w'.cell? ⟨eb, 0, none⟩ = some (.pointer (some ⟨nb, 0, none⟩)) ∧ w'.cell? ⟨eb, 1, none⟩ = some (.pointer (some ⟨ab, 0, none⟩))) (go_keep) (fail)
  go_wp2
  go_end0
  exact ⟨rfl, Sim.drew2 _⟩

end Go.Proofs.Qxb6612554a
