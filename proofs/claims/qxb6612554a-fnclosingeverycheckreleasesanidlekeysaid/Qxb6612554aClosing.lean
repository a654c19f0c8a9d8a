import Derived.Test.Qxb6612554aLawFailed
import Derived.Test.Qxb6612554aIdent
namespace Go.Proofs.Qxb6612554a
open Go.ChangeShapes Go.WideShapes Go.ChangeAt Go.RowKit
set_option linter.unusedVariables false

theorem put_self (D : LD) (i : Nat) : D.put i (D.fd i) = D := by
  cases D
  simp only [LD.put]
  congr 1
  funext j
  by_cases e : j = i
  · subst e; simp
  · simp [e]
/-- The keys behind m closes. -/
def ordM (r : Rec) (n i m : Nat) : List Nat := if m = 0 then List.range n else if r.f = 0 ∧ r.fl = m then butI n i else butI n i ++ [i]
theorem butI_not (n i : Nat) : i ∉ butI n i := fun h => (butI_mem h).2 rfl
theorem ordM_mem {r : Rec} {n i m : Nat} (hi : i < n) (hm : (m : Int) < r.fl) : i ∈ ordM r n i m := by
  unfold ordM
  by_cases h0 : m = 0
  · rw [if_pos h0]; simpa using hi
  · rw [if_neg h0, if_neg (by rintro ⟨-, e⟩; omega)]; simp
theorem ordM_erase {r : Rec} {n i m : Nat} (hm : (m : Int) < r.fl) : (ordM r n i m).erase i = butI n i := by
  unfold ordM
  by_cases h0 : m = 0
  · rw [if_pos h0]; rfl
  · rw [if_neg h0, if_neg (by rintro ⟨-, e⟩; omega), List.erase_append_right _ (butI_not n i)]
    simp

/-- THE LIMITER BEHIND m CLOSES. -/
structure CS (w1 wr : World) (D : LD) (r : Rec) (R : Nat → Rec) (n i m g kb : Nat) (now : Int) : Prop where
  lim : Lim wr (D.put i r) (ordM (R i) n i m)
  dn : D.n = n
  dB : D.B = w1.heap.size
  dnow : D.now = now ∧ D.mu = 0
  dfd : ∀ j, j < n → j ≠ i → D.fd j = R j
  rf : r.f = (R i).f
  rlf : r.lf = (R i).lf
  rfl : r.fl = (R i).fl - m
  rla : i ∈ ordM (R i) n i m → r.la = if m = 0 then (R i).la else now
  row : wr.heap[g]? = some (.cells (elsRow D.E n n).toArray 37 (0, 0))
  key : wr.rangeAt kb 0 (kl i)
  kout : ¬ D.blk kb
  klt : kb < wr.heap.size
  bel : Below w1.heap.size w1 wr

theorem range_fr {w w' : World} {S : Nat → Prop} {b o : Nat} {cs : List Value} (h : w.rangeAt b o cs) (hF : Fr S w w') (hb : b < w.heap.size) (hS : ¬ S b) : w'.rangeAt b o cs := by
  intro j v hv
  have := h j v hv
  rw [← this]
  have hk := hF.block b hb hS
  simp only [World.cell?, hk]

theorem CS.step {w1 wr w2 w3 : World} {D : LD} {r : Rec} {R : Nat → Rec} {n i m g kb : Nat} {now : Int} (h : CS w1 wr D r R n i m g kb now) (hi : i < n) (hok : (R i).ok) (hm : (m : Int) < (R i).fl)
    (hb : Below wr.heap.size wr w2) (hL : Lim w3 ((D.put i r).put i (closedRec r now)) (closedOrd r i (ordM (R i) n i m))) (hF : Fr (U (D.put i r) wr.heap.size) w2 w3) :
    CS w1 w3 D (closedRec r now) R n i (m + 1) g kb now := by
  have h64 := hok.2.2.2
  unfold In64 at h64
  have hwr : wrap64 (r.fl - 1) = (R i).fl - (m + 1) := by
    rw [h.rfl, IntWalk.wrap64_in _ (by omega)]
    omega
  have hid : idle r ↔ ((R i).f = 0 ∧ (R i).fl = ((m + 1 : Nat) : Int)) := by
    show (r.f = 0 ∧ wrap64 (r.fl - 1) = 0) ↔ _
    rw [hwr, h.rf]
    constructor
    · rintro ⟨a, b⟩; exact ⟨a, by omega⟩
    · rintro ⟨a, b⟩; exact ⟨a, by omega⟩
  have hord : closedOrd r i (ordM (R i) n i m) = ordM (R i) n i (m + 1) := by
    unfold closedOrd
    rw [ordM_erase hm]
    unfold ordM
    rw [if_neg (Nat.succ_ne_zero m)]
    by_cases hc : idle r
    · rw [if_pos hc, if_pos (hid.1 hc)]
    · rw [if_neg hc, if_neg (fun e => hc (hid.2 e))]
  have hbel2 : Below w1.heap.size w1 w2 := h.bel.trans (hb.mono h.bel.size)
  have hlim2 := h.lim.below hb
  have hF' : Below w1.heap.size w2 w3 := end_below hlim2 h.dB h.bel.size hF
  have hg : g < wr.heap.size := lt_of_heap h.row
  have ng : ¬ U (D.put i r) wr.heap.size g := by
    rintro (e | e)
    · exact (h.lim.notBlk h.row (by decide)) e
    · omega
  have nk : ¬ U (D.put i r) wr.heap.size kb := by
    rintro (e | e)
    · exact h.kout e
    · have := h.klt; omega
  rw [put_put, hord] at hL
  refine ⟨hL, h.dn, h.dB, h.dnow, h.dfd, ?_, ?_, ?_, fun hin => ?_, ?_, ?_, h.kout, ?_, hbel2.trans hF'⟩
  · unfold closedRec; split <;> exact h.rf
  · unfold closedRec; split <;> exact h.rlf
  · have : (closedRec r now).fl = wrap64 (r.fl - 1) := by unfold closedRec; split <;> rfl
    rw [this, hwr]
    simp
  · rw [if_neg (Nat.succ_ne_zero m)]
    unfold closedRec
    by_cases hc : idle r
    · exfalso
      unfold ordM at hin
      rw [if_neg (Nat.succ_ne_zero m), if_pos (hid.1 hc)] at hin
      exact butI_not n i hin
    · rw [if_neg hc]
  · rw [hF.block _ (by have := hb.size; omega) ng, hb.block _ hg]; exact h.row
  · exact range_fr (range_later hb h.key) hF (by have := hb.size; have := h.klt; omega) nk
  · have := h.klt; have := hb.size; have := hF.size; omega
end Go.Proofs.Qxb6612554a
