import Derived.Test.Qxb6602344aShare
namespace Go.Proofs.Qxb6602344a
open Go.ChangeShapes Go.WideShapes Go.ChangeAt Go.RowKit
open Classical
set_option linter.unusedVariables false
set_option linter.unusedSimpArgs false

section
variable {w : World} {sb so cap : Nat} {O : Nat → Nat} {hm base : Nat} {db nm ow : ByteArray} {N : Nat} {S : Nat → ByteArray} {keys : List ByteArray} {G : ByteArray → List Value} {vs : ByteArray → Value}
theorem MapIs.count {w : World} {hm : Nat} {keys : List ByteArray} {vs : ByteArray → Value} (h : MapIs w hm keys vs) : ∃ es ck, w.heap[hm]? = some (.map es ck) ∧ es.size = keys.length := by
  obtain ⟨es, ck, h1, h2, _⟩ := h.ex
  refine ⟨es, ck, h1, ?_⟩
  have := congrArg List.length h2
  simpa using this

theorem run_len_map {w : World} {hm : Nat} {es : Array MapEntry} {ck : Nat} (T ty E : TypeId) (ht : Try.prog.underlying T = some (.map 9 E)) (h : w.heap[hm]? = some (.map es ck)) : (Builtin.len_ #[T] ty #[.map (some hm)]).run Try.prog w = .ok (.int .i64 es.size) w := by
  simp [Builtin.len_, run_underlying ht, MapKept.run_getObj_map h, Result.andThen, goInt]
theorem MapIs.len {w : World} {hm : Nat} {keys : List ByteArray} {vs : ByteArray → Value} (h : MapIs w hm keys vs) (T ty E : TypeId) (ht : Try.prog.underlying T = some (.map 9 E)) : (Builtin.len_ #[T] ty #[.map (some hm)]).run Try.prog w = .ok (.int .i64 keys.length) w := by
  obtain ⟨es, ck, h1, h2⟩ := h.count
  rw [run_len_map T ty E ht h1, h2]

set_option maxRecDepth 20000 in
set_option maxHeartbeats 2000000 in
theorem object0_any (h : Snap w sb so cap O hm base db nm ow N S keys G vs) (hN : N ≤ 65536) :
    Calls Try.prog 17 #[Ptr sb, .int .i64 0] w fun e w' => e = .returned (.tuple #[.int .i64 0, .string nm, .string ow, .int .i64 keys.length]) ∧ Below w.heap.size w w' := by
  have c1 := h.c1
  have c2 := h.obj (Nat.zero_le N)
  have H0 : Hid (w.drew.cell? ⟨O 0, 0, none⟩ = some (.int .i64 0) ∧ w.drew.cell? ⟨O 0, 1, none⟩ = some (.string nm) ∧ w.drew.cell? ⟨O 0, 2, none⟩ = some (.string ow) ∧ w.drew.cell? ⟨O 0, 3, none⟩ = some (.map (some hm)) ∧ (Builtin.len_ #[54] 3 #[.map (some hm)]).run Try.prog w.drew = .ok (.int .i64 keys.length) w.drew) :=
    ⟨cell_of_block h.o0 0, cell_of_block h.o0 1, cell_of_block h.o0 2, cell_of_block h.o0 3, (h.gm.map.same (w' := w.drew) rfl).len 54 3 55 Try.underlying54⟩
  have hI : (0 : Int) < (N : Int) + 1 := by omega
  clear h
  go_enter Try.func17, Try.ntmps17
  go_wp2
  go_region_held3 (fun w' => w'.cell? ⟨O 0, 0, none⟩ = some (.int .i64 0) ∧ w'.cell? ⟨O 0, 1, none⟩ = some (.string nm) ∧ w'.cell? ⟨O 0, 2, none⟩ = some (.string ow) ∧ w'.cell? ⟨O 0, 3, none⟩ = some (.map (some hm)) ∧ (Builtin.len_ #[54] 3 #[.map (some hm)]).run Try.prog w' = .ok (.int .i64 keys.length) w') (first | exact H0.out | assumption) (fail)
  go_wp2
  (try simp only [Exit.inBlock, Exit.then])
  refine bodyPost_ret (results_tmp4 rfl _ _ _) rfl ?_
  exact ⟨rfl, (Below.refl _ _).drew⟩

set_option maxRecDepth 20000 in
set_option maxHeartbeats 2000000 in
theorem objectI_any (h : Snap w sb so cap O hm base db nm ow N S keys G vs) (hN : N ≤ 65536) {i : Nat} (hi : i < N) :
    Calls Try.prog 17 #[Ptr sb, .int .i64 ((i : Int) + 1)] w fun e w' => e = .returned (.tuple #[.int .i64 2, .string (S i), .string ow, .int .i64 0]) ∧ Below w.heap.size w w' := by
  have c1 := h.c1
  have c2 := h.obj (show i + 1 ≤ N by omega)
  have ho := h.os i hi
  have H0 : Hid (w.drew.cell? ⟨O (i + 1), 0, none⟩ = some (.int .i64 2) ∧ w.drew.cell? ⟨O (i + 1), 1, none⟩ = some (.string (S i)) ∧ w.drew.cell? ⟨O (i + 1), 2, none⟩ = some (.string ow) ∧ w.drew.cell? ⟨O (i + 1), 3, none⟩ = some (.map none)) :=
    ⟨cell_of_block ho 0, cell_of_block ho 1, cell_of_block ho 2, cell_of_block ho 3⟩
  have hI : (i : Int) + 1 < (N : Int) + 1 := by omega
  have hI0 : (0 : Int) ≤ (i : Int) + 1 := by omega
  clear h ho
  generalize O (i + 1) = ob at *
  go_enter Try.func17, Try.ntmps17
  go_wp2
  go_region_held3 (fun w' => w'.cell? ⟨ob, 0, none⟩ = some (.int .i64 2) ∧ w'.cell? ⟨ob, 1, none⟩ = some (.string (S i)) ∧ w'.cell? ⟨ob, 2, none⟩ = some (.string ow) ∧ w'.cell? ⟨ob, 3, none⟩ = some (.map none)) (first | exact H0.out | assumption) (fail)
  go_wp2
  (try simp only [Exit.inBlock, Exit.then])
  refine bodyPost_ret (results_tmp4 rfl _ _ _) rfl ?_
  exact ⟨rfl, (Below.refl _ _).drew⟩

theorem Snap.below {w' : World} (h : Snap w sb so cap O hm base db nm ow N S keys G vs) (hb : Below w.heap.size w w') : Snap w' sb so cap O hm base db nm ow N S keys G vs := h.later (fun b hlt => hb.block b hlt)

set_option maxRecDepth 20000 in
set_option maxHeartbeats 2000000 in
theorem others_any {a : Option Addr} {c : Nat} (h : Snap w sb so cap O hm base db nm ow N S keys G vs) (hN : N ≤ 65536) (ha : StrV w a N S) :
    Calls Try.prog 15 #[Ptr sb, .string ow, .slice a N c] w fun e w' => e = .returned (.bool true) ∧ Below w.heap.size w w' := by
  have hL := len_any h
  have HS : Hid (Snap w sb so cap O hm base db nm ow N S keys G vs) := h
  clear h
  go_enter Try.func15, Try.ntmps15
  go_wp2_with fail
  refine hL.mono ?_
  rintro e w' ⟨rfl, rfl⟩
  clear hL
  have hcomm : (N : Int) + 1 = 1 + (N : Int) := by omega
  go_wp2
  go_loopw [7] (fun t wr => ∃ k : Nat, k ≤ N ∧ t = .int .i64 k ∧ Below w'.heap.size w' wr) (fun t _ => N - (intOf t).toNat)
  case atStart => exact ⟨0, Nat.zero_le _, rfl, Below.refl _ _⟩
  case round =>
    obtain ⟨k, hk, rfl, hbel⟩ := hrel
    have HB : Hid (Below w'.heap.size w' wr) := hbel
    by_cases hlt : k < N
    · obtain ⟨b, off, rfl, hc⟩ := ha (by omega)
      have hO := objectI_any (HS.out.below hbel) hN hlt
      have hkI : (k : Int) < N := by omega
      have c0 := hc k hlt
      clear hbel
      go_wp2_with fail
      refine hO.mono ?_
      rintro e w1 ⟨rfl, hb1⟩
      have hb2 : Below w'.heap.size w' w1 := HB.out.trans (hb1.mono HB.out.size)
      have c0' := cell_later hb2 c0
      have HB2 : Hid (Below w'.heap.size w' w1) := hb2
      clear hO hb1 hb2 c0
      go_wp2
      go_roundw
      case rel => exact ⟨k + 1, by omega, by go_num, HB2.out⟩
      case measure => simp [intOf]; omega
    · obtain rfl : k = N := by omega
      clear hbel
      go_wp2
      go_ret
      exact ⟨rfl, HB.out⟩
end
end Go.Proofs.Qxb6602344a
