import Derived.Test.Qxb6600744aRows
import Derived.WalkKit
import Derived.ProofKit
import Derived.WalkSpells
import Derived.Below
import Derived.Laws.BytesArg
import Derived.Laws.Slices
namespace Go.Proofs.Qxb6600744a
open Go.ChangeShapes Go.WideShapes Go.ChangeAt Go.RowKit
set_option linter.unusedVariables false

abbrev Ptr (b : Nat) : Value := .pointer (some ⟨b, 0, none⟩)
/-- THE CURSOR at block cb over the bytes B of block bb, p of them read. -/
def Cur (w : World) (cb bb : Nat) (B : List Int) (p : Nat) (ok : Bool) : Prop :=
  ∃ o, (p < B.length → o = p) ∧ p ≤ B.length ∧ bb < cb ∧ w.heap[cb]? = some (.cells #[.slice (some ⟨bb, o, none⟩) (B.length - p) (B.length - p), .bool ok] 46 (0, 0)) ∧ w.heap[bb]? = some (.cells (B.map (Value.int .u8)).toArray 5 (0, 0))

theorem cell_of_block {w : World} {b : Nat} {c : Array Value} {t : TypeId} {f : Nat × Nat} (h : w.heap[b]? = some (.cells c t f)) (o : Nat) : w.cell? ⟨b, o, none⟩ = c[o]? := by
  simp [World.cell?, h]
theorem frozen_of_block {w : World} {b : Nat} {c : Array Value} {t : TypeId} (h : w.heap[b]? = some (.cells c t (0, 0))) (o : Nat) : w.frozen? ⟨b, o, none⟩ = false := by
  simp [World.frozen?, h]
theorem heap_setCell_at {w : World} {b o : Nat} {c : Array Value} {t : TypeId} {f : Nat × Nat} (h : w.heap[b]? = some (.cells c t f)) (v : Value) :
    (w.setCell ⟨b, o, none⟩ v).heap[b]? = some (.cells (c.setIfInBounds o v) t f) := by
  simp only [World.setCell, Array.getElem?_modify]
  simp [h]

/-- ok cleared -/
theorem Cur.fail {w : World} {cb bb : Nat} {B : List Int} {p : Nat} {ok : Bool} (h : Cur w cb bb B p ok) : Cur (w.setCell ⟨cb, 1, none⟩ (.bool false)) cb bb B p false := by
  obtain ⟨o, h1, h2, h3, h4, h5⟩ := h
  exact ⟨o, h1, h2, h3, by rw [heap_setCell_at h4]; rfl, by rw [Below.heap_setCell _ _ _ _ (Nat.ne_of_lt h3)]; exact h5⟩
/-- k bytes more are read -/
theorem Cur.read {w : World} {cb bb : Nat} {B : List Int} {p q o : Nat} {ok : Bool} (h : Cur w cb bb B p ok) (hq : q ≤ B.length) (ho : q < B.length → o = q) :
    Cur (w.setCell ⟨cb, 0, none⟩ (.slice (some ⟨bb, o, none⟩) (B.length - q) (B.length - q))) cb bb B q ok := by
  obtain ⟨o', h1, h2, h3, h4, h5⟩ := h
  exact ⟨o, ho, hq, h3, by rw [heap_setCell_at h4]; rfl, by rw [Below.heap_setCell _ _ _ _ (Nat.ne_of_lt h3)]; exact h5⟩
theorem byte_cell {w : World} {bb : Nat} {B : List Int} (h5 : w.heap[bb]? = some (.cells (B.map (Value.int .u8)).toArray 5 (0, 0))) {j : Nat} {v : Int} (hj : B[j]? = some v) : w.cell? ⟨bb, j, none⟩ = some (.int .u8 v) := by
  rw [cell_of_block h5]
  simp [hj]

theorem bset (w : World) (cb o : Nat) (v : Value) : Below cb w (w.setCell ⟨cb, o, none⟩ v) := (Below.refl cb w).setCell (Nat.le_refl cb) v
/-- Does s stand at p? -/
def litB (B : List Int) (s : ByteArray) (p : Nat) : Bool := decide (p + s.size ≤ B.length) && ((strOfNums ((B.drop p).take s.size)).toList == s.toList)

theorem convert_at {w : World} {bb : Nat} {B : List Int} (h5 : w.heap[bb]? = some (.cells (B.map (Value.int .u8)).toArray 5 (0, 0))) (p k c : Nat) (hk : p + k ≤ B.length) :
    (convert 22 9 (.slice (some ⟨bb, p, none⟩) k c)).run Try.prog w = .ok (.string (strOfNums ((B.drop p).take k))) w := by
  refine run_convert_bytes_arg w 22 5 Try.underlying22 Try.underlying5 bb p k c _ (by simp; omega) (fun i hi => ?_) 9 Try.underlying9
  refine byte_cell h5 ?_
  have hb : p + i < B.length := by omega
  rw [List.getD_eq_getElem?_getD, List.getElem?_take_of_lt hi, List.getElem?_drop, List.getElem?_eq_getElem hb]
  rfl

set_option maxRecDepth 20000 in
set_option maxHeartbeats 1000000 in
theorem lit_any (w : World) (cb bb : Nat) (B : List Int) (p : Nat) (ok : Bool) (s : ByteArray) (h : Cur w cb bb B p ok) (hB : B.length ≤ 2000000) (hs : 0 < s.size) (hs2 : s.size ≤ 100) :
    Calls Try.prog 34 #[Ptr cb, .string s] w fun e w' => e = .returned (.bool (ok && litB B s p)) ∧ Cur w' cb bb B (if ok && litB B s p then p + s.size else p) ok ∧ Below cb w w' := by
  have HC : Hid (Cur w cb bb B p ok) := h
  obtain ⟨o, h1, h2, h3, h4, h5⟩ := h
  have c0 := cell_of_block h4 0
  have c1 := cell_of_block h4 1
  have f0 := frozen_of_block h4 0
  simp at c0 c1
  cases ok with
  | false =>
    clear h1 h4 h5
    go_enter Try.func34, Try.ntmps34
    go_wp2
    go_ret
    exact ⟨rfl, HC.out, Below.refl _ _⟩
  | true =>
    by_cases hl : p + s.size ≤ B.length
    rotate_left
    · have hlt : ((B.length - p : Nat) : Int) < s.size := by omega
      have hF : litB B s p = false := by unfold litB; rw [decide_eq_false hl]; rfl
      rw [hF]
      generalize B.length - p = n at *
      clear h1 h4 h5
      go_enter Try.func34, Try.ntmps34
      go_wp2
      go_ret
      exact ⟨rfl, HC.out, Below.refl _ _⟩
    · obtain rfl : o = p := h1 (by omega)
      have hcv := fun c => convert_at h5 o s.size c hl
      have hlb : litB B s o = ((strOfNums ((B.drop o).take s.size)).toList == s.toList) := by unfold litB; rw [decide_eq_true hl]; rfl
      generalize hu : strOfNums ((B.drop o).take s.size) = u at *
      clear hu
      rw [hlb]
      have hge : ¬ ((B.length - o : Nat) : Int) < s.size := by omega
      have hk0 : (0 : Int) ≤ s.size := by omega
      have hk1 : (s.size : Int) ≤ (B.length - o : Nat) := by omega
      clear hlb h1 h4
      by_cases hq : (u.toList == s.toList) = true
      rotate_left
      · have hqf : (u.toList == s.toList) = false := by simpa using hq
        rw [hqf]
        clear hq h5
        generalize B.length - o = n at *
        go_enter Try.func34, Try.ntmps34
        go_wp2
        go_ret
        exact ⟨rfl, HC.out, Below.refl _ _⟩
      · rw [hq]
        clear h5
        have HR : Hid (∀ x, (o + s.size < B.length → x = o + s.size) → Cur (w.setCell ⟨cb, 0, none⟩ (.slice (some ⟨bb, x, none⟩) (B.length - o - s.size) (B.length - o - s.size))) cb bb B (o + s.size) true) := by
          intro x hx
          have := HC.out.read (q := o + s.size) (o := x) hl hx
          rwa [Nat.sub_add_eq] at this
        generalize hn : B.length - o = n at *
        go_enter Try.func34, Try.ntmps34
        go_wp2
        · go_ret
          have hR := HR.out o (by omega)
          rw [h, Nat.sub_self] at hR
          exact ⟨rfl, hR, bset _ _ _ _⟩
        · go_ret
          exact ⟨rfl, HR.out (o + s.size) (fun _ => rfl), bset _ _ _ _⟩
/-- WHAT A STEP LEAVES: the cursor at o, or ok cleared. -/
def Res (w : World) (cb bb : Nat) (B : List Int) (p : Nat) (o : Option Nat) : Prop :=
  (∃ q, o = some q ∧ p ≤ q ∧ Cur w cb bb B q true) ∨ (o = none ∧ ∃ q, p ≤ q ∧ Cur w cb bb B q false)
def needP (B : List Int) (s : ByteArray) (p : Nat) : Option Nat := if litB B s p then some (p + s.size) else none

set_option maxRecDepth 20000 in
set_option maxHeartbeats 1000000 in
theorem need_any (w : World) (cb bb : Nat) (B : List Int) (p : Nat) (o : Option Nat) (s : ByteArray) (h : Res w cb bb B p o) (hB : B.length ≤ 2000000) (hs : 0 < s.size) (hs2 : s.size ≤ 100) :
    Calls Try.prog 35 #[Ptr cb, .string s] w fun e w' => e = .returned (.tuple #[]) ∧ Res w' cb bb B p (o.bind (needP B s)) ∧ Below cb w w' := by
  rcases h with ⟨q, rfl, hpq, hc⟩ | ⟨rfl, q, hpq, hc⟩
  · have hL := lit_any w cb bb B q true s hc hB hs hs2
    by_cases hl : litB B s q = true
    · rw [hl] at hL
      have HP : Hid (needP B s q = some (q + s.size)) := if_pos hl
      clear hc hl
      go_enter Try.func35, Try.ntmps35
      go_wp2_with fail
      refine hL.mono ?_
      rintro e w1 ⟨rfl, hc1, hb1⟩
      have HC1 : Hid (Cur w1 cb bb B (q + s.size) true) := hc1
      clear hL hc1
      go_wp2
      go_end0
      refine ⟨rfl, Or.inl ⟨q + s.size, HP.out, by omega, HC1.out⟩, hb1⟩
    · have hl' : litB B s q = false := by simpa using hl
      rw [hl'] at hL
      have HP : Hid (needP B s q = none) := if_neg hl
      clear hc hl hl'
      go_enter Try.func35, Try.ntmps35
      go_wp2_with fail
      refine hL.mono ?_
      rintro e w1 ⟨rfl, hc1, hb1⟩
      have HC1 : Hid (Cur w1 cb bb B q true) := hc1
      obtain ⟨o, h1, h2, h3, h4, h5⟩ := hc1
      have c1 := cell_of_block h4 1
      have f1 := frozen_of_block h4 1
      simp at c1
      clear hL h1 h2 h3 h4 h5
      go_wp2
      go_end0
      exact ⟨rfl, Or.inr ⟨HP.out, q, hpq, HC1.out.fail⟩, hb1.setCell (Nat.le_refl _) _⟩
  · have hL := lit_any w cb bb B q false s hc hB hs hs2
    clear hc
    go_enter Try.func35, Try.ntmps35
    go_wp2_with fail
    refine hL.mono ?_
    rintro e w1 ⟨rfl, hc1, hb1⟩
    have HC1 : Hid (Cur w1 cb bb B q false) := hc1
    obtain ⟨o, h1, h2, h3, h4, h5⟩ := hc1
    have c1 := cell_of_block h4 1
    have f1 := frozen_of_block h4 1
    simp at c1
    clear hL h1 h2 h3 h4 h5
    go_wp2
    go_end0
    exact ⟨rfl, Or.inr ⟨rfl, q, hpq, HC1.out.fail⟩, hb1.setCell (Nat.le_refl _) _⟩
end Go.Proofs.Qxb6600744a
