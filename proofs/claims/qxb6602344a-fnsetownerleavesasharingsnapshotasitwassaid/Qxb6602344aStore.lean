import Derived.Test.Qxb6602344aClone
import Derived.OwnWalk
namespace Go.Proofs.Qxb6602344a
open Go.ChangeShapes Go.WideShapes Go.ChangeAt Go.RowKit
open Classical
set_option linter.unusedVariables false
set_option linter.unusedSimpArgs false

/-- append onto a slice of the call's own, as a step of a region that draws -/
theorem step_append_own {ops : Array Oper} {o : Oper} {a : Act} {w : World} {K : Act → World → Prop} {Q : Exit → Act → World → Prop} {E : Prop}
    (hgd : o.guard = none) (s x : Operand) (t : TypeId) (ho : o.op = .call { callee := .builtin .append, args := #[s, x], argTypes := #[t, t] })
    (base : Nat) (e : TypeId) (z : Value) (size bytes : Nat) (ht : Try.prog.underlying t = some (.slice e)) (hi : (Try.prog.info? e).map (fun i => (i.zero, i.size, i.bytes)) = some (some z, size, bytes)) (hzs : z.cells.size = size) (hsz : 0 < size) (hby : bytes ≤ 100)
    (v : Value) (n : Nat) (xs : List Value) (hs : a.eval s = v) (hown : w.ownsRow base e size v n xs)
    (ad : Addr) (news : List Value) (hx : a.eval x = .slice (some ad) 1 1) (hl : news.length = 1 * size) (hnews : ∀ j u, news[j]? = some u → w.cell? (ad.add j) = some u) (h1 : ∀ u ∈ news, u.oneCell' = true)
    (h63 : n ≤ 10000000) (hbase : base ≤ w.heap.size)
    (h : ∀ v' w', w'.ownsRow base e size v' (n + 1) (xs ++ news) → w.grownBy w' v.ownBlock → (v'.ownBlock = v.ownBlock ∨ v'.ownBlock = some w.heap.size) → K (a.put o.dst v') w') :
    if Region.wanted o (yielded ops a.tmps) = true then Oper.wp Try.prog o a w K Q else E := by
  have hw : Region.wanted o (yielded ops a.tmps) = true := by simp [Region.wanted, hgd]
  rw [if_pos hw]
  obtain ⟨i0, hi, hz0, hz1, hz2⟩ := info_parts hi
  have hb : (n + 1) * bytes ≤ 10000001 * 100 := Nat.mul_le_mul (by omega) hby
  obtain ⟨v', w', hr, h2, h3, h4, h5⟩ := run_append_own_at (P := Try.prog) w base t o.type e i0 z size bytes ht hi hz0 hz1 hz2 hzs hsz v n xs hown ad 1 1 news hl hnews h1 (by unfold maxLen; omega) (by omega) hbase
  unfold Oper.wp
  simp [execOp, ho, resolve, invoke, builtin, hs, hx, hr, Result.andThen]
  exact h v' w' h2 h3 h5
/-- the same in a plain region -/
theorem wpList_append_own1 {ops : Array Oper} {rest : List Oper} {o : Oper} {a : Act} {w : World} {Q : Exit → Act → World → Prop}
    (hgd : o.guard = none) (s x : Operand) (t : TypeId) (ho : o.op = .call { callee := .builtin .append, args := #[s, x], argTypes := #[t, t] })
    (base : Nat) (e : TypeId) (z : Value) (size bytes : Nat) (ht : Try.prog.underlying t = some (.slice e)) (hi : (Try.prog.info? e).map (fun i => (i.zero, i.size, i.bytes)) = some (some z, size, bytes)) (hzs : z.cells.size = size) (hsz : 0 < size) (hby : bytes ≤ 100)
    (v : Value) (n : Nat) (xs : List Value) (hs : a.eval s = v) (hown : w.ownsRow base e size v n xs)
    (ad : Addr) (news : List Value) (hx : a.eval x = .slice (some ad) 1 1) (hl : news.length = 1 * size) (hnews : ∀ j u, news[j]? = some u → w.cell? (ad.add j) = some u) (h1 : ∀ u ∈ news, u.oneCell' = true)
    (h63 : n ≤ 10000000) (hbase : base ≤ w.heap.size)
    (h : ∀ v' w', w'.ownsRow base e size v' (n + 1) (xs ++ news) → w.grownBy w' v.ownBlock → (v'.ownBlock = v.ownBlock ∨ v'.ownBlock = some w.heap.size) → wpList Try.prog ops Q rest (a.put o.dst v') w') :
    wpList Try.prog ops Q (o :: rest) a w := by
  obtain ⟨i0, hi, hz0, hz1, hz2⟩ := info_parts hi
  have hb : (n + 1) * bytes ≤ 10000001 * 100 := Nat.mul_le_mul (by omega) hby
  refine wpList_append_own_at w hgd s x t ho base e i0 z size bytes ht hi hz0 hz1 hz2 hzs hsz v n xs hs hown ad 1 1 news hx hl hnews h1 (by unfold maxLen; omega) (by omega) hbase (fun v' w' h2 h3 _ h5 => h v' w' h2 h3 h5)

section
variable {w : World} {hm base : Nat} {e : TypeId} {size : Nat} {keys : List ByteArray} {G : ByteArray → List Value} {vs : ByteArray → Value}
theorem own_ge {v : Value} {n : Nat} {xs : List Value} (h : w.ownsRow base e size v n xs) {g : Nat} (hg : v.ownBlock = some g) : base ≤ g := by
  rcases h.2 with ⟨rfl, _⟩ | ⟨g', cap, cur, rfl, a1, a2, a3⟩
  · cases hg
  · cases hg; exact a1
theorem GM.store {w1 w2 : World} {k : ByteArray} {v' : Value} {n' : Nat} {xs' : List Value} {T E : TypeId} (h : GM w hm base e size keys G vs) (h1 : ∀ b, b < w.heap.size → w1.heap[b]? = w.heap[b]?) (hs1 : w.heap.size ≤ w1.heap.size)
    (hg : w1.grownBy w2 (valAt keys vs k).ownBlock) (hown : w2.ownsRow base e size v' n' xs') (hloc : v'.ownBlock = (valAt keys vs k).ownBlock ∨ v'.ownBlock = some w1.heap.size) (ht : Try.prog.underlying T = some (.map 9 E)) (hk : k.size ≤ maxLen) :
    ∃ w3, (Instr.mapUpdate T (.map (some hm)) (.string k) v').run Try.prog w2 = .ok () w3 ∧ GM w3 hm base e size (addK keys k) (updV G k xs') (updV vs k v') ∧ (∀ b, b ≠ hm → w3.heap[b]? = w2.heap[b]?) ∧ w2.grownBy w3 (some hm) := by
  have hb : ∀ b, b < w.heap.size → some b ≠ (valAt keys vs k).ownBlock → w2.heap[b]? = w.heap[b]? := fun b hb hne => by rw [hg.block b (by omega) hne, h1 b hb]
  have hmm : w2.heap[hm]? = w.heap[hm]? := hb hm h.map.lt (fun hc => (h.rowLt hc.symm).2 rfl)
  obtain ⟨w3, hr, hm3, hfar, hgr, _⟩ := (h.map.same hmm).update ht hk v'
  refine ⟨w3, hr, h.upd hown hb ?_ hm3 hfar, hfar, hgr⟩
  rcases hloc with hl | hl
  · exact Or.inr (Or.inl hl)
  · exact Or.inr (Or.inr ⟨_, hl, hs1⟩)
theorem GM.storeBelow {w0 w1 w2 w3 : World} {B : Nat} {k : ByteArray} (h : GM w hm base e size keys G vs) (hB : Below B w0 w1) (hBs : B ≤ w1.heap.size) (hBm : B ≤ hm) (hBb : B ≤ base) (hg : w1.grownBy w2 (valAt keys vs k).ownBlock) (hg3 : w2.grownBy w3 (some hm)) : Below B w0 w3 := by
  obtain ⟨n, hn⟩ := h.at k
  refine hB.trans ⟨?_, ?_, ?_, ?_, ?_⟩
  · rw [hg3.os, hg.os]
  · rw [hg3.tape, hg.tape]
  · rw [hg3.output, hg.output]
  · exact Nat.le_trans hg.size hg3.size
  · intro b hb
    by_cases hlt : b < w1.heap.size
    · rw [hg3.block b (by have := hg.size; omega) (fun e => by cases e; omega), hg.block b hlt (fun e => by have := own_ge hn e.symm; omega)]
    · omega
end
end Go.Proofs.Qxb6602344a
