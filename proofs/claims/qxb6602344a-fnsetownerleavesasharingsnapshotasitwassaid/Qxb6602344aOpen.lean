import Derived.Test.Qxb6602344aLaw
import Derived.Test.Qxb6602344aHead
import Derived.OpenShut
import Derived.ShutString
import Derived.ChangeOld
import Derived.Deep.Slices
import Derived.SliceStrings
namespace Go.Proofs.Qxb6602344a
open Go.ChangeShapes Go.WideShapes Go.ChangeAt Go.RowKit
set_option linter.unusedVariables false

theorem own : ownKnob Try.prog.godebug = none := by kernel_rfl
theorem laidOut : laidOutB Try.prog = true := by kernel_rfl
theorem cells52 : Try.prog.cellsOf 52 = 4 := by kernel_rfl
theorem cells9 : Try.prog.cellsOf 9 = 1 := by kernel_rfl
theorem cells4 : Try.prog.cellsOf 4 = 1 := by kernel_rfl
theorem choose_fn {α : Type} (z : α) {n : Nat} {p : Nat → α → Prop} (h : ∀ i, i < n → ∃ x, p i x) : ∃ f : Nat → α, ∀ i, i < n → p i (f i) := by
  refine ⟨fun i => if hi : i < n then Classical.choose (h i hi) else z, fun i hi => ?_⟩
  simp only [hi, dif_pos]
  exact Classical.choose_spec (h i hi)
theorem len4 {α : Type} {l : List α} (h : l.length = 4) : ∃ a b c d, l = [a, b, c, d] := by
  match l, h with
  | [a, b, c, d], _ => exact ⟨a, b, c, d, rfl⟩

section
variable {H : Type} {enc : TypeId × Value → H} {W : World} {sp : Nat → Bool}
/-- A grant, opened. -/
theorem open_grant {fuel : Nat} {cs : List Value} {x : DataW H × List MemPlace} (h : DataW.trod enc Try.prog W 0 sp true fuel 52 cs = some x) :
    ∃ r : Gr, r.g.size ≤ maxLen ∧ cs = [.string r.g, .string r.p, .string r.o, .bool r.t] := by
  obtain ⟨xs, n, _, _, hl, hx, hf⟩ := DataW.trod_struct Try.underlying52 h
  rw [cells52] at hl
  have h0 := hf 0 _ rfl
  have h1 := hf 1 _ rfl
  have h2 := hf 2 _ rfl
  have h3 := hf 3 _ rfl
  obtain ⟨c0, c1, c2, c3, rfl⟩ := len4 hl
  obtain ⟨x0, x1, x2, x3, rfl⟩ := len4 (show xs.length = 4 from hx)
  have k0 : DataW.trod enc Try.prog W 0 sp true n 9 (List.take (Try.prog.cellsOf 9) (List.drop 0 [c0, c1, c2, c3])) = some x0 := h0
  have k1 : DataW.trod enc Try.prog W 0 sp true n 9 (List.take (Try.prog.cellsOf 9) (List.drop 1 [c0, c1, c2, c3])) = some x1 := h1
  have k2 : DataW.trod enc Try.prog W 0 sp true n 9 (List.take (Try.prog.cellsOf 9) (List.drop 2 [c0, c1, c2, c3])) = some x2 := h2
  have k3 : DataW.trod enc Try.prog W 0 sp true n 4 (List.take (Try.prog.cellsOf 4) (List.drop 3 [c0, c1, c2, c3])) = some x3 := h3
  rw [cells9] at k0 k1 k2
  rw [cells4] at k3
  obtain ⟨n0, e0, _, w0⟩ := DataW.trod_string Try.underlying9 k0
  obtain ⟨n1, e1, _, w1⟩ := DataW.trod_string Try.underlying9 k1
  obtain ⟨n2, e2, _, w2⟩ := DataW.trod_string Try.underlying9 k2
  obtain ⟨n3, e3, _⟩ := DataW.trod_bool Try.underlying4 k3
  simp at e0 e1 e2 e3
  subst e0 e1 e2 e3
  exact ⟨⟨n0, n1, n2, n3⟩, w0, rfl⟩

/-- A slice of grants, opened. -/
theorem open_grs {a : Option Addr} {len cap : Nat} {d : DataW H} {p : List MemPlace} (h : DataW.Trod enc Try.prog W 0 sp true 22 (.slice a len cap) d p) :
    ∃ R : Nat → Gr, GrV W a len R ∧ (∀ i, i < len → (R i).g.size ≤ maxLen) ∧ len ≤ maxLen ∧ (a = none → len = 0 ∧ cap = 0) := by
  obtain ⟨fuel, hf⟩ := h
  rcases Deep.open_slice Try.underlying22 hf with ⟨hcs, _⟩ | ⟨ad, l, c, m, n, Dd, Pl, hcs, _, hl, hm, hmm, _, hx⟩
  · simp [Value.cells] at hcs
    obtain ⟨rfl, rfl, rfl⟩ := hcs
    exact ⟨fun _ => ⟨⟨#[]⟩, ⟨#[]⟩, ⟨#[]⟩, false⟩, fun h0 => by omega, fun i hi => by omega, by unfold maxLen; omega, fun _ => ⟨rfl, rfl⟩⟩
  · simp [Value.cells] at hcs
    obtain ⟨rfl, rfl, rfl⟩ := hcs
    have hle : len ≤ m := by rw [hmm]; split <;> omega
    have each : ∀ i, i < len → ∃ r : Gr, r.g.size ≤ maxLen ∧ ∀ j v, [Value.string r.g, .string r.p, .string r.o, .bool r.t][j]? = some v → W.cell? ((ad.add (i * 4)).add j) = some v := by
      intro i hi
      obtain ⟨cs', h1, h2⟩ := hx i (by omega)
      rw [cells52] at h1
      obtain ⟨_, hlen, hc⟩ := World.cells?_some h1
      obtain ⟨r, hr, rfl⟩ := open_grant h2
      refine ⟨r, hr, fun j v hv => ?_⟩
      have hj : j < 4 := by simpa using (List.getElem?_eq_some_iff.1 hv).1
      rw [hc j hj]
      exact hv
    obtain ⟨R, hR⟩ := choose_fn ⟨⟨#[]⟩, ⟨#[]⟩, ⟨#[]⟩, false⟩ each
    refine ⟨R, fun h0 => ?_, fun i hi => (hR i hi).1, by omega, fun h => by cases h⟩
    have hsp : ad.spot = none := by
      have := (hR 0 h0).2 0 _ rfl
      rw [Nat.zero_mul] at this
      have e : (ad.add 0).add 0 = ad := by simp [Addr.add]
      rw [e] at this
      exact World.cell?_spot this
    obtain ⟨b, off, spot⟩ := ad
    simp only at hsp
    subst hsp
    refine ⟨b, off, rfl, fun i hi => ?_⟩
    have hA : ∀ j v, [Value.string (R i).g, .string (R i).p, .string (R i).o, .bool (R i).t][j]? = some v → W.cell? ⟨b, off + i * 4 + j, none⟩ = some v := by
      intro j v hv
      have := (hR i hi).2 j v hv
      rw [Addr.add_mid, Addr.add_mid] at this
      exact this
    exact ⟨hA 0 _ rfl, hA 1 _ rfl, hA 2 _ rfl, hA 3 _ rfl⟩
/-- A slice of strings, opened. -/
theorem open_strs {a : Option Addr} {len cap : Nat} {d : DataW H} {p : List MemPlace} (h : DataW.Trod enc Try.prog W 0 sp true 23 (.slice a len cap) d p) :
    ∃ S : Nat → ByteArray, StrV W a len S ∧ (∀ i, i < len → (S i).size ≤ maxLen) ∧ len ≤ maxLen ∧ (a = none → len = 0 ∧ cap = 0) := by
  obtain ⟨fuel, hf⟩ := h
  rcases Deep.open_slice Try.underlying23 hf with ⟨hcs, _⟩ | ⟨ad, l, c, m, n, Dd, Pl, hcs, _, hl, hm, hmm, _, hx⟩
  · simp [Value.cells] at hcs
    obtain ⟨rfl, rfl, rfl⟩ := hcs
    exact ⟨fun _ => ⟨#[]⟩, fun h0 => by omega, fun i hi => by omega, by unfold maxLen; omega, fun _ => ⟨rfl, rfl⟩⟩
  · simp [Value.cells] at hcs
    obtain ⟨rfl, rfl, rfl⟩ := hcs
    have hle : len ≤ m := by rw [hmm]; split <;> omega
    have each : ∀ i, i < len → ∃ r : ByteArray, r.size ≤ maxLen ∧ W.cell? (ad.add (i * 1)) = some (.string r) := by
      intro i hi
      obtain ⟨cs', h1, h2⟩ := hx i (by omega)
      rw [cells9] at h1
      obtain ⟨_, hlen, hc⟩ := World.cells?_some h1
      obtain ⟨r, rfl, _, hr⟩ := DataW.trod_string Try.underlying9 h2
      refine ⟨r, hr, ?_⟩
      have := hc 0 (by omega)
      have e : (ad.add (i * 1)).add 0 = ad.add (i * 1) := by simp [Addr.add]
      rw [e] at this
      rw [this]; rfl
    obtain ⟨S, hS⟩ := choose_fn ⟨#[]⟩ each
    refine ⟨S, fun h0 => ?_, fun i hi => (hS i hi).1, by omega, fun h => by cases h⟩
    have hsp : ad.spot = none := by
      have := (hS 0 h0).2
      have e : ad.add (0 * 1) = ad := by simp [Addr.add]
      rw [e] at this
      exact World.cell?_spot this
    obtain ⟨b, off, spot⟩ := ad
    simp only at hsp
    subst hsp
    refine ⟨b, off, rfl, fun i hi => ?_⟩
    have := (hS i hi).2
    rw [Addr.add_mid, Nat.mul_one] at this
    exact this
end
end Go.Proofs.Qxb6602344a
