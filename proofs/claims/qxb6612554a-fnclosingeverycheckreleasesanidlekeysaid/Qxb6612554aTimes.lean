import Derived.Test.Qxb6612554aRows
import Derived.WalkKit
import Derived.ProofKit
import Derived.WalkSpells
import Derived.Deep.RegionHeld3
import Derived.Deep.DrawnRows
import Derived.Laws.BitsAllLaws
namespace Go.Proofs.Qxb6612554a
open Go.ChangeShapes Go.WideShapes Go.ChangeAt Go.RowKit
set_option linter.unusedVariables false

theorem and_mask30 (x : Int) (x0 : 0 ≤ x) (x1 : x < 1000000000) : bits BinOp.and IntKind.u64 x 1073741823 = x := by
  rw [u64_and x 1073741823 x0 (by omega) (by omega) (by omega)]
  have h : x.toNat &&& 1073741823 = x.toNat % 1073741824 := Nat.and_two_pow_sub_one_eq_mod x.toNat 30
  have e : (1073741823 : Int).toNat = 1073741823 := rfl
  rw [e, h]
  omega
theorem and_mono (x : Int) (x0 : 0 ≤ x) (x1 : x < 1000000000) : bits BinOp.and IntKind.u64 x 9223372036854775808 = 0 := by
  rw [u64_and x 9223372036854775808 x0 (by omega) (by omega) (by omega)]
  have e : (9223372036854775808 : Int).toNat = 2 ^ 63 := rfl
  rw [e, nat_bit]
  have : x.toNat / 2 ^ 63 = 0 := Nat.div_eq_of_lt (by omega)
  rw [this]; rfl
theorem or_zero (x : Int) (x0 : 0 ≤ x) (x1 : x < 1000000000) : bits BinOp.or IntKind.u64 0 x = x := by
  rw [u64_or 0 x (by omega) (by omega) x0 (by omega)]
  simp
  omega
theorem andNot_zero : bits BinOp.andNot IntKind.u64 0 1073741823 = 0 := by decide +kernel

set_option maxHeartbeats 400000 in
theorem nsec_any (b : Nat) (x : Int) (w : World) (h : w.cell? ⟨b, 0, none⟩ = some (.int .u64 x)) (x0 : 0 ≤ x) (x1 : x < 1000000000) :
    Calls Try.prog 61 #[.pointer (some ⟨b, 0, none⟩)] w fun e w' => e = .returned (.int .i32 x) ∧ w' = w := by
  have hb := and_mask30 x x0 x1
  go_enter Try.func61, Try.ntmps61
  go_wp2
  go_ret
  exact ⟨rfl, rfl⟩

set_option maxHeartbeats 400000 in
theorem sec_any (b : Nat) (x s : Int) (w : World) (h : w.cell? ⟨b, 0, none⟩ = some (.int .u64 x)) (h1 : w.cell? ⟨b, 1, none⟩ = some (.int .i64 s)) (x0 : 0 ≤ x) (x1 : x < 1000000000) :
    Calls Try.prog 74 #[.pointer (some ⟨b, 0, none⟩)] w fun e w' => e = .returned (.int .i64 s) ∧ w' = w := by
  have hb := and_mono x x0 x1
  go_enter Try.func74, Try.ntmps74
  go_wp2
  go_ret
  exact ⟨rfl, rfl⟩

set_option maxHeartbeats 400000 in
theorem addSec_any (b : Nat) (x s : Int) (w : World) (h : w.cell? ⟨b, 0, none⟩ = some (.int .u64 x)) (h1 : w.cell? ⟨b, 1, none⟩ = some (.int .i64 0)) (x0 : 0 ≤ x) (x1 : x < 1000000000)
    (f1 : w.frozen? ⟨b, 1, none⟩ = false) (s0 : -10000000000 ≤ s) (s1 : s ≤ 10000000000) :
    Calls Try.prog 62 #[.pointer (some ⟨b, 0, none⟩), .int .i64 s] w fun e w' => e = .returned (.tuple #[]) ∧ w' = w.setCell ⟨b, 1, none⟩ (.int .i64 s) := by
  have hb := and_mono x x0 x1
  go_enter Try.func62, Try.ntmps62
  go_wp2
  go_end0
  exact ⟨rfl, rfl⟩


/-- A time that lies d nanoseconds behind the zero time, as its three cells. -/
def tm (d : Int) : Array Value := #[.int .u64 (d % 1000000000), .int .i64 (d / 1000000000), .pointer none]

set_option maxHeartbeats 800000 in
theorem add_pos (d q r : Int) (w : World) (hq : d.tdiv 1000000000 = q) (hr : d.tmod 1000000000 = r) (q0 : -9223372037 ≤ q) (q1 : q ≤ 9223372037) (r0 : 0 ≤ r) (r1 : r < 1000000000) :
    Calls Try.prog 41 #[.agg #[.int .u64 0, .int .i64 0, .pointer none], .int .i64 d] w fun e w' => e = .returned (.agg #[.int .u64 r, .int .i64 q, .pointer none]) ∧ Below w.heap.size w w' := by
  have hb := and_mono r r0 r1
  have ho := or_zero r r0 r1
  have ha := andNot_zero
  go_enter Try.func41, Try.ntmps41
  go_wp2_with (first
    | (go_at_call 61; refine (nsec_any _ 0 _ ?_ (by omega) (by omega)).mono ?_; (simp); rintro e w' ⟨rfl, rfl⟩)
    | (go_at_call 62; refine (addSec_any _ r _ _ ?_ ?_ r0 r1 ?_ (by omega) (by omega)).mono ?_; (simp); (simp); (simp); rintro e w' ⟨rfl, rfl⟩))
  exact bodyPost_ret (v := .agg #[.int .u64 r, .int .i64 q, .pointer none]) (by simp [results, Try.results41, go_sem]) rfl ⟨rfl, ((Below.refl _ _).alloc (Nat.le_refl _) _).alloc (by simp) _⟩

set_option maxHeartbeats 800000 in
theorem add_neg (d q r : Int) (w : World) (hq : d.tdiv 1000000000 = q) (hr : d.tmod 1000000000 = r) (q0 : -9223372036 ≤ q) (q1 : q ≤ 9223372037) (r0 : r < 0) (r1 : -1000000000 < r) :
    Calls Try.prog 41 #[.agg #[.int .u64 0, .int .i64 0, .pointer none], .int .i64 d] w fun e w' => e = .returned (.agg #[.int .u64 (r + 1000000000), .int .i64 (q - 1), .pointer none]) ∧ Below w.heap.size w w' := by
  have hb := and_mono (r + 1000000000) (by omega) (by omega)
  have ho := or_zero (r + 1000000000) (by omega) (by omega)
  have ha := andNot_zero
  go_enter Try.func41, Try.ntmps41
  go_wp2_with (first
    | (go_at_call 61; refine (nsec_any _ 0 _ ?_ (by omega) (by omega)).mono ?_; (simp); rintro e w' ⟨rfl, rfl⟩)
    | (go_at_call 62; refine (addSec_any _ (r + 1000000000) _ _ ?_ ?_ (by omega) (by omega) ?_ (by omega) (by omega)).mono ?_; (simp); (simp); (simp); rintro e w' ⟨rfl, rfl⟩))
  exact bodyPost_ret (v := .agg #[.int .u64 (r + 1000000000), .int .i64 (q - 1), .pointer none]) (by simp [results, Try.results41, go_sem]) rfl ⟨rfl, ((Below.refl _ _).alloc (Nat.le_refl _) _).alloc (by simp) _⟩

/-- What an int64 holds. -/
def In64 (d : Int) : Prop := -9223372036854775808 ≤ d ∧ d ≤ 9223372036854775807

/-- 'time.Time{}.Add(d)' -/
theorem add_any (d : Int) (hd : In64 d) (w : World) :
    Calls Try.prog 41 #[.agg #[.int .u64 0, .int .i64 0, .pointer none], .int .i64 d] w fun e w' => e = .returned (.agg (tm d)) ∧ Below w.heap.size w w' := by
  unfold In64 at hd
  have t1 := Int.mul_tdiv_add_tmod d 1000000000
  have t2 := Int.tmod_lt_of_pos d (b := 1000000000) (by omega)
  have t3 := Int.lt_tmod_of_pos d (b := 1000000000) (by omega)
  by_cases h0 : 0 ≤ d.tmod 1000000000
  · have e1 : d.tdiv 1000000000 = d / 1000000000 := by omega
    have e2 : d.tmod 1000000000 = d % 1000000000 := by omega
    exact add_pos d _ _ w e1 e2 (by omega) (by omega) (by omega) (by omega)
  · have e1 : d.tdiv 1000000000 - 1 = d / 1000000000 := by omega
    have e2 : d.tmod 1000000000 + 1000000000 = d % 1000000000 := by omega
    unfold tm
    rw [← e1, ← e2]
    exact add_neg d _ _ w rfl rfl (by omega) (by omega) (by omega) (by omega)

set_option maxHeartbeats 800000 in
theorem equal_any (r q : Int) (w : World) (r0 : 0 ≤ r) (r1 : r < 1000000000) :
    Calls Try.prog 75 #[.agg #[.int .u64 r, .int .i64 q, .pointer none], .agg #[.int .u64 r, .int .i64 q, .pointer none]] w fun e w' => e = .returned (.bool true) ∧ Below w.heap.size w w' := by
  have hb := and_mono r r0 r1
  have haa : bits BinOp.and IntKind.u64 r r = r := by
    rw [u64_and r r r0 (by omega) r0 (by omega), Nat.and_self]; omega
  go_enter Try.func75, Try.ntmps75
  go_wp2_with (first
    | (go_at_call 61; refine (nsec_any _ r _ ?_ r0 r1).mono ?_; (simp); rintro e w' ⟨rfl, rfl⟩)
    | (go_at_call 74; refine (sec_any _ r q _ ?_ ?_ r0 r1).mono ?_; (simp); (simp); rintro e w' ⟨rfl, rfl⟩))
  go_ret
  exact ⟨rfl, ((Below.refl _ _).alloc (Nat.le_refl _) _).alloc (by simp) _⟩


theorem add_any' (d r q : Int) (hd : In64 d) (er : d % 1000000000 = r) (eq : d / 1000000000 = q) (w : World) :
    Calls Try.prog 41 #[.agg #[.int .u64 0, .int .i64 0, .pointer none], .int .i64 d] w fun e w' => e = .returned (.agg #[.int .u64 r, .int .i64 q, .pointer none]) ∧ Below w.heap.size w w' := by
  subst er eq
  exact add_any d hd w

attribute [local go_sem ↓] Go.wp_at_zero Go.wp_at_succ
set_option maxHeartbeats 800000 in
theorem sub_core (d r q : Int) (hd : In64 d) (w : World) (r0 : 0 ≤ r) (r1 : r < 1000000000) (q0 : -9223372037 ≤ q) (q1 : q ≤ 9223372036) 
    (her : Hid (d % 1000000000 = r)) (heq : Hid (d / 1000000000 = q)) (hm : wrap64 (wrap64 (q * 1000000000) + r) = d) :
    Calls Try.prog 58 #[.agg #[.int .u64 r, .int .i64 q, .pointer none], .agg #[.int .u64 0, .int .i64 0, .pointer none]] w fun e w' => e = .returned (.int .i64 d) ∧ Below w.heap.size w w' := by
  have hb : bits BinOp.and IntKind.u64 r 0 = 0 := by
    rw [u64_and r 0 r0 (by omega) (by omega) (by omega)]; simp
  have hb2 : bits BinOp.and IntKind.u64 0 9223372036854775808 = 0 := by decide +kernel
  go_enter Try.func58, Try.ntmps58
  go_wp2_with fail
  refine (sec_any _ r q _ (by simp) (by simp) r0 r1).mono ?_
  rintro e w' ⟨rfl, rfl⟩
  go_wp2_with fail
  refine (sec_any _ 0 0 _ (by simp) (by simp) (by omega) (by omega)).mono ?_
  rintro e w' ⟨rfl, rfl⟩
  go_wp2_with fail
  refine (nsec_any _ r _ (by simp) r0 r1).mono ?_
  rintro e w' ⟨rfl, rfl⟩
  go_wp2_with fail
  refine (nsec_any _ 0 _ (by simp) (by omega) (by omega)).mono ?_
  rintro e w' ⟨rfl, rfl⟩
  go_wp2_with fail
  have H0 : Hid (∀ W : World, W = (((w.alloc (.cells #[.int .u64 r, .int .i64 q, .pointer none] 63)).alloc (.cells #[.int .u64 0, .int .i64 0, .pointer none] 63))).drew → W.cell? ⟨w.heap.size, 0, none⟩ = some (.int .u64 r) ∧ W.cell? ⟨w.heap.size, 1, none⟩ = some (.int .i64 q) ∧ W.cell? ⟨w.heap.size, 2, none⟩ = some (.pointer none) ∧
     W.cell? ⟨w.heap.size+1, 0, none⟩ = some (.int .u64 0) ∧ W.cell? ⟨w.heap.size+1, 1, none⟩ = some (.int .i64 0) ∧ W.cell? ⟨w.heap.size+1, 2, none⟩ = some (.pointer none) ∧ Below w.heap.size w W) := by
    rintro W rfl
    refine ⟨by simp, by simp, by simp, by simp, by simp, by simp, (((Below.refl _ _).alloc (Nat.le_refl _) _).alloc (by simp) _).drew⟩
  go_region_held3 (fun w' => w'.cell? ⟨w.heap.size, 0, none⟩ = some (.int .u64 r) ∧ w'.cell? ⟨w.heap.size, 1, none⟩ = some (.int .i64 q) ∧ w'.cell? ⟨w.heap.size, 2, none⟩ = some (.pointer none) ∧
     w'.cell? ⟨w.heap.size+1, 0, none⟩ = some (.int .u64 0) ∧ w'.cell? ⟨w.heap.size+1, 1, none⟩ = some (.int .i64 0) ∧ w'.cell? ⟨w.heap.size+1, 2, none⟩ = some (.pointer none) ∧ Below w.heap.size w w')
    (first | exact H0.out _ rfl
           | (exact ⟨cell_later hbb hHold.1, cell_later hbb hHold.2.1, cell_later hbb hHold.2.2.1, cell_later hbb hHold.2.2.2.1, cell_later hbb hHold.2.2.2.2.1, cell_later hbb hHold.2.2.2.2.2.1, hHold.2.2.2.2.2.2.trans (hbb.mono hHold.2.2.2.2.2.2.size)⟩))
    (first | (go_at_call 41; have hHold := ‹_ ∧ _›; refine (add_any' d r q hd her.out heq.out _).mono ?_; rintro e w' ⟨rfl, hbb⟩) | (go_at_call 75; have hHold := ‹_ ∧ _›; refine (equal_any r q _ r0 r1).mono ?_; rintro e w' ⟨rfl, hbb⟩))
  go_wp2
  have hh := ‹_ ∧ _›
  go_ret
  exact ⟨rfl, hh.2.2.2.2.2.2⟩

/-- '(time.Time{}.Add(d)).Sub(time.Time{})' is d. -/
theorem sub_any (d : Int) (hd : In64 d) (w : World) :
    Calls Try.prog 58 #[.agg (tm d), .agg #[.int .u64 0, .int .i64 0, .pointer none]] w fun e w' => e = .returned (.int .i64 d) ∧ Below w.heap.size w w' := by
  have hd' := hd
  unfold In64 at hd'
  refine sub_core d (d % 1000000000) (d / 1000000000) hd w (by omega) (by omega) (by omega) (by omega) rfl rfl ?_
  unfold wrap64
  omega
end Go.Proofs.Qxb6612554a
