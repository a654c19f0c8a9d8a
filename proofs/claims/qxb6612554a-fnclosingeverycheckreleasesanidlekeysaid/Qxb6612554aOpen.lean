import Derived.Test.Qxb6612554aLawDrop
import Derived.OpenShut
import Derived.ShutString
import Derived.ChangeOld
import Derived.Deep.Slices
namespace Go.Proofs.Qxb6612554a
open Go.ChangeShapes Go.WideShapes Go.ChangeAt Go.RowKit
set_option linter.unusedVariables false

theorem own : ownKnob Try.prog.godebug = none := by kernel_rfl
theorem cells40 : Try.prog.cellsOf 40 = 4 := by kernel_rfl
theorem cells3 : Try.prog.cellsOf 3 = 1 := by kernel_rfl
theorem cells2 : Try.prog.cellsOf 2 = 1 := by kernel_rfl

theorem choose_rec {n : Nat} {p : Nat → Rec → Prop} (h : ∀ i, i < n → ∃ x, p i x) : ∃ f : Nat → Rec, ∀ i, i < n → p i (f i) := by
  refine ⟨fun i => if hi : i < n then Classical.choose (h i hi) else ⟨0, 0, 0, 0⟩, fun i hi => ?_⟩
  simp only [hi, dif_pos]
  exact Classical.choose_spec (h i hi)
section
variable {H : Type} {enc : TypeId × Value → H} {W : World} {sp : Nat → Bool}
theorem in64_of_wf {n : Int} (h : (Lit.int .i64 n).wf = true) : In64 n := by
  simp [Lit.wf, IntKind.min, IntKind.max, IntKind.signed, IntKind.bits] at h
  unfold In64
  omega
theorem len4 {α : Type} {l : List α} (h : l.length = 4) : ∃ a b c d, l = [a, b, c, d] := by
  match l, h with
  | [a, b, c, d], _ => exact ⟨a, b, c, d, rfl⟩
/-- An entry, opened. -/
theorem open_entry {fuel : Nat} {cs : List Value} {x : DataW H × List MemPlace} (h : DataW.trod enc Try.prog W 0 sp true fuel 40 cs = some x) :
    ∃ r : Rec, r.ok ∧ cs = [.int .i64 r.f, .int .i64 r.lf, .int .i64 r.la, .int .i64 r.fl] := by
  obtain ⟨xs, n, _, _, hl, hx, hf⟩ := DataW.trod_struct Try.underlying40 h
  rw [cells40] at hl
  have h0 := hf 0 _ rfl
  have h1 := hf 1 _ rfl
  have h2 := hf 2 _ rfl
  have h3 := hf 3 _ rfl
  obtain ⟨c0, c1, c2, c3, rfl⟩ := len4 hl
  obtain ⟨x0, x1, x2, x3, rfl⟩ := len4 (show xs.length = 4 from hx)
  have k0 : DataW.trod enc Try.prog W 0 sp true n 3 (List.take (Try.prog.cellsOf 3) (List.drop 0 [c0, c1, c2, c3])) = some x0 := h0
  have k1 : DataW.trod enc Try.prog W 0 sp true n 2 (List.take (Try.prog.cellsOf 2) (List.drop 1 [c0, c1, c2, c3])) = some x1 := h1
  have k2 : DataW.trod enc Try.prog W 0 sp true n 2 (List.take (Try.prog.cellsOf 2) (List.drop 2 [c0, c1, c2, c3])) = some x2 := h2
  have k3 : DataW.trod enc Try.prog W 0 sp true n 3 (List.take (Try.prog.cellsOf 3) (List.drop 3 [c0, c1, c2, c3])) = some x3 := h3
  rw [cells3] at k0 k3
  rw [cells2] at k1 k2
  obtain ⟨n0, e0, _, w0⟩ := DataW.trod_int Try.underlying3 k0
  obtain ⟨n1, e1, _, w1⟩ := DataW.trod_int Try.underlying2 k1
  obtain ⟨n2, e2, _, w2⟩ := DataW.trod_int Try.underlying2 k2
  obtain ⟨n3, e3, _, w3⟩ := DataW.trod_int Try.underlying3 k3
  simp at e0 e1 e2 e3
  subst e0 e1 e2 e3
  exact ⟨⟨n0, n1, n2, n3⟩, ⟨in64_of_wf w0, in64_of_wf w1, in64_of_wf w2, in64_of_wf w3⟩, rfl⟩

/-- A slice of entries, opened. -/
theorem open_es {a : Option Addr} {len cap : Nat} {d : DataW H} {p : List MemPlace} (h : DataW.Trod enc Try.prog W 0 sp true 22 (.slice a len cap) d p) :
    ∃ R : Nat → Rec, EsV W a len R ∧ (∀ i, i < len → (R i).ok) ∧ len ≤ maxLen := by
  obtain ⟨fuel, hf⟩ := h
  rcases Deep.open_slice Try.underlying22 hf with ⟨hcs, _⟩ | ⟨ad, l, c, m, n, Dd, Pl, hcs, _, hl, hm, hmm, _, hx⟩
  · simp [Value.cells] at hcs
    obtain ⟨rfl, rfl, rfl⟩ := hcs
    exact ⟨fun _ => ⟨0, 0, 0, 0⟩, fun h0 => by omega, fun i hi => by omega, by unfold maxLen; omega⟩
  · simp [Value.cells] at hcs
    obtain ⟨rfl, rfl, rfl⟩ := hcs
    have hle : len ≤ m := by rw [hmm]; split <;> omega
    have each : ∀ i, i < len → ∃ r : Rec, r.ok ∧ ∀ j v, [Value.int .i64 r.f, .int .i64 r.lf, .int .i64 r.la, .int .i64 r.fl][j]? = some v → W.cell? ((ad.add (i * 4)).add j) = some v := by
      intro i hi
      obtain ⟨cs', h1, h2⟩ := hx i (by omega)
      rw [cells40] at h1
      obtain ⟨_, hlen, hc⟩ := World.cells?_some h1
      obtain ⟨r, hr, rfl⟩ := open_entry h2
      refine ⟨r, hr, fun j v hv => ?_⟩
      have hj : j < 4 := by simpa using (List.getElem?_eq_some_iff.1 hv).1
      rw [hc j hj]
      exact hv
    obtain ⟨R, hR⟩ := choose_rec each
    refine ⟨R, fun h0 => ?_, fun i hi => (hR i hi).1, by omega⟩
    have hsp : ad.spot = none := by
      have := (hR 0 h0).2 0 _ rfl
      rw [Nat.zero_mul] at this
      have e : (ad.add 0).add 0 = ad := by simp [Addr.add]
      rw [e] at this
      exact World.cell?_spot this
    obtain ⟨b, off, spot⟩ := ad
    simp only at hsp
    subst hsp
    refine ⟨b, off, rfl, fun i hi => ?_⟩
    have hA : ∀ j v, [Value.int .i64 (R i).f, .int .i64 (R i).lf, .int .i64 (R i).la, .int .i64 (R i).fl][j]? = some v → W.cell? ⟨b, off + i * 4 + j, none⟩ = some v := by
      intro j v hv
      have := (hR i hi).2 j v hv
      rw [Addr.add_mid, Addr.add_mid] at this
      exact this
    exact ⟨hA 0 _ rfl, hA 1 _ rfl, hA 2 _ rfl, hA 3 _ rfl⟩
/-- A slice of ints, opened. -/
theorem open_ord {a : Option Addr} {len cap : Nat} {d : DataW H} {p : List MemPlace} (h : DataW.Trod enc Try.prog W 0 sp true 31 (.slice a len cap) d p) :
    ∃ Zs : Nat → Int, OrdV W a len Zs ∧ len ≤ maxLen := by
  obtain ⟨fuel, hf⟩ := h
  rcases open_ints Try.underlying31 Try.underlying3 cells3 hf with ⟨hcs, _⟩ | ⟨x, l, c, zs, hcs, _, hl, hm, hz, _, hcell, hwz⟩
  · simp [Value.cells] at hcs
    obtain ⟨rfl, rfl, rfl⟩ := hcs
    exact ⟨fun _ => 0, fun h0 => by omega, by unfold maxLen; omega⟩
  · simp [Value.cells] at hcs
    obtain ⟨rfl, rfl, rfl⟩ := hcs
    have hle : len ≤ zs.length := by rw [hz]; split <;> omega
    refine ⟨fun k => zs.getD k 0, fun h0 => ?_, by omega⟩
    have hsp : x.spot = none := by
      have := hcell 0 (by omega)
      have e : x.add 0 = x := by simp [Addr.add]
      rw [e] at this
      exact World.cell?_spot this
    obtain ⟨b, off, spot⟩ := x
    simp only at hsp
    subst hsp
    refine ⟨b, off, rfl, fun k hk => ?_⟩
    have := hcell k (by omega)
    rw [Addr.add_mid] at this
    exact this
end
end Go.Proofs.Qxb6612554a
