import Derived.Test.Qxb6612554aMatch
namespace Go.Proofs.Qxb6612554a
open Go.ChangeShapes Go.WideShapes Go.ChangeAt Go.RowKit
set_option linter.unusedVariables false

theorem lits_i64 (d : Nat) {t : TypeId} (ht : Try.prog.underlying t = some (.int .i64)) {n : Int} (hn : In64 n) : Try.prog.keyLits (d + 1) t [.int .i64 n] = some [.int .i64 n] := by
  unfold In64 at hn
  have hw : (Lit.int .i64 n).wf = true := by simp [Lit.wf, IntKind.min, IntKind.max, IntKind.signed, IntKind.bits]; omega
  simp [Program.keyLits, ht, hw]
theorem cells51 : Try.prog.cellsOf 51 = 36 := by kernel_rfl
theorem cellsT3 : Try.prog.cellsOf 3 = 1 := by kernel_rfl
theorem cellsT2 : Try.prog.cellsOf 2 = 1 := by kernel_rfl
theorem keyType51 : Try.prog.keyType 51 = true := by kernel_rfl
theorem keyAt51 : Try.prog.keyTypeAt 4 51 = true := by kernel_rfl
/-- The key's cells, as literals. -/
theorem key_lits (i : Nat) (d : Nat) : ∃ l, Try.prog.keyLits (d + 2) 49 (kl i) = some l := by
  have hm : ∃ ys, (List.range 32).mapM (fun j => Try.prog.keyLits (d + 1) 5 (((kl i).drop (j * Try.prog.cellsOf 5)).take (Try.prog.cellsOf 5))) = some ys := by
    refine mapM_some (fun j hj => ?_)
    have hj' : j < 32 := by simpa using hj
    obtain ⟨b, hb, h0, h1⟩ := kl_get i j hj'
    refine ⟨[.int .u8 b], ?_⟩
    have e : ((kl i).drop (j * Try.prog.cellsOf 5)).take (Try.prog.cellsOf 5) = [.int .u8 b] := by
      rw [cells5, Nat.mul_one]
      have hl : j < (kl i).length := by rw [kl_length]; omega
      have hg : (kl i)[j] = .int .u8 b := by
        have := List.getElem?_eq_getElem hl
        rw [this] at hb
        exact Option.some.inj hb
      rw [List.drop_eq_getElem_cons hl, hg]
      rfl
    rw [e]
    exact lits_byte d b h0 h1
  obtain ⟨ys, hys⟩ := hm
  exact ⟨_, lits_arr (d + 1) (kl i) (by rw [kl_length, cells49]) hys⟩
theorem lits_rec (d : Nat) (cs : List Value) (hl : cs.length = 36) {l0 l1 l2 l3 l4 : List Lit} (h0 : Try.prog.keyLits d 49 (cs.take 32) = some l0) (h1 : Try.prog.keyLits d 3 ((cs.drop 32).take 1) = some l1)
    (h2 : Try.prog.keyLits d 2 ((cs.drop 33).take 1) = some l2) (h3 : Try.prog.keyLits d 2 ((cs.drop 34).take 1) = some l3) (h4 : Try.prog.keyLits d 3 ((cs.drop 35).take 1) = some l4) :
    ∃ l, Try.prog.keyLits (d + 1) 51 cs = some l := by
  have hc : (36 = Try.prog.cellsOf 51) := cells51.symm
  simp only [Program.keyLits, Try.underlying51, hl, ← hc, true_and]
  rw [if_pos (by kernel_rfl)]
  simp only [List.mapM_cons, List.mapM_nil, cells49, cellsT3, cellsT2, List.drop_zero, h0, h1, h2, h3, h4, Option.map_some, Option.pure_def, Option.bind_eq_bind, Option.bind_some]
  exact ⟨_, rfl⟩
/-- A record reads as a key. -/
theorem rec_ok (i : Nat) {r : Rec} (hr : r.ok) : ∃ l, keyOf Try.prog 51 (.agg (recC i r).toArray) = some l := by
  unfold keyOf
  rw [Try.underlying51]
  have hf : (Value.agg (recC i r).toArray).formed Try.prog 51 = true := by simp [Value.formed, Try.underlying51, cells51, recC_length]
  simp only [keyType51, hf, Bool.and_self, if_true]
  obtain ⟨l0, h0⟩ := key_lits i 164
  have e0 : (recC i r).take 32 = kl i := by
    unfold recC
    rw [List.take_append_of_le_length (by rw [kl_length]; exact Nat.le_refl _), List.take_of_length_le (by rw [kl_length]; exact Nat.le_refl _)]
  have e1 : ∀ k, (recC i r).drop (32 + k) = ([.int .i64 r.f, .int .i64 r.lf, .int .i64 r.la, .int .i64 r.fl] : List Value).drop k := by
    intro k
    unfold recC
    rw [List.drop_append, kl_length]
    simp [List.drop_eq_nil_of_le, kl_length]
  obtain ⟨l, hl⟩ := lits_rec 166 (recC i r) (recC_length i r) (by rw [e0]; exact h0) (by rw [e1 0]; exact lits_i64 165 Try.underlying3 hr.1) (by rw [e1 1]; exact lits_i64 165 Try.underlying2 hr.2.1)
    (by rw [e1 2]; exact lits_i64 165 Try.underlying2 hr.2.2.1) (by rw [e1 3]; exact lits_i64 165 Try.underlying3 hr.2.2.2)
  have hk : Try.prog.keyLits (Try.prog.types.size + 1) 51 (Value.agg (recC i r).toArray).cells.toList = some l := by
    rw [ntypes]
    exact hl
  rw [hk]
  exact ⟨_, rfl⟩
theorem neq51_same (i : Nat) {r : Rec} (hr : r.ok) (W : World) : (binOp .neq 51 (.agg (recC i r).toArray) (.agg (recC i r).toArray)).run Try.prog W = .ok (.bool false) W := by
  obtain ⟨l, hl⟩ := rec_ok i hr
  obtain ⟨b, hb, hiff⟩ := run_equal_deep W (m := 4) (by omega) keyAt51 (by rw [Try.underlying51]) hl hl
  have : b = true := hiff.2 rfl
  subst this
  simp [binOp, hb]
theorem eql49_same (i : Nat) (W : World) : (binOp .eql 49 (.agg (kl i).toArray) (.agg (kl i).toArray)).run Try.prog W = .ok (.bool true) W := by
  obtain ⟨l, hl⟩ := key_ok i
  obtain ⟨r, hr, hiff⟩ := run_equal_deep W (m := 3) (by omega) keyAt49 (by rw [Try.underlying49]) hl hl
  have : r = true := hiff.2 rfl
  subst this
  simp [binOp, hr]
end Go.Proofs.Qxb6612554a
