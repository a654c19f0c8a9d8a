import Derived.Test.Qxb6612554aReach
namespace Go.Proofs.Qxb6612554a
open Go.ChangeShapes Go.WideShapes Go.ChangeAt Go.RowKit
set_option linter.unusedVariables false
attribute [local go_sem ↓] Go.wp_at_zero Go.wp_at_succ

theorem Lim.notBlk {w : World} {D : LD} {ord : List Nat} (h : Lim w D ord) {k : Nat} {c : Array Value} {t : TypeId} {f : Nat × Nat} (hk : w.heap[k]? = some (.cells c t f))
    (ht : t ≠ 91 ∧ t ≠ 63 ∧ t ≠ 110 ∧ t ≠ 97 ∧ t ≠ 94) : ¬ D.blk k := by
  intro hb
  rcases hb with rfl | rfl | rfl | hl | ⟨j, hj, rfl⟩
  · rw [h.lim] at hk; cases hk; exact ht.1 rfl
  · obtain ⟨es, ck, ks, hb, _⟩ := h.mp; rw [hb] at hk; cases hk
  · rw [h.clk] at hk; cases hk; exact ht.2.1 rfl
  · exact h.notLB hk ht.2.2.1 ht.2.2.2.1 hl
  · rw [h.ent j hj] at hk; cases hk; exact ht.2.2.2.2 rfl

/-- The row of the elements, k of n filled. -/
def elsRow (E : Nat → Nat) (k n : Nat) : List Value := (List.range n).map fun j => if j < k then Ptr (E j) else .pointer none
theorem elsRow_length (E : Nat → Nat) (k n : Nat) : (elsRow E k n).length = n := by simp [elsRow]
theorem elsRow_get (E : Nat → Nat) (k n j : Nat) (hj : j < n) : (elsRow E k n)[j]? = some (if j < k then Ptr (E j) else .pointer none) := by simp [elsRow, hj]
theorem elsRow_step (E : Nat → Nat) (k n b : Nat) : (elsRow E k n).toArray.setIfInBounds k (Ptr b) = (elsRow (snocE E k b) (k + 1) n).toArray := by
  rw [List.setIfInBounds_toArray]
  refine congrArg List.toArray ?_
  apply List.ext_getElem?
  intro j
  rw [List.getElem?_set]
  by_cases hj : j < n
  · rw [elsRow_get _ _ _ _ hj, elsRow_get _ _ _ _ hj]
    by_cases e : k = j
    · subst e
      simp [elsRow_length, hj, snocE]
    · simp only [e, if_false]
      by_cases h1 : j < k
      · rw [if_pos h1, if_pos (by omega), snocE_old _ _ h1]
      · rw [if_neg h1, if_neg (by omega)]
  · rw [List.getElem?_eq_none (l := elsRow (snocE E k b) (k + 1) n) (by rw [elsRow_length]; omega)]
    by_cases e : k = j
    · subst e; simp [elsRow_length]; omega
    · simp only [e, if_false]
      exact List.getElem?_eq_none (by rw [elsRow_length]; omega)
theorem elsRow_congr {E E' : Nat → Nat} {k n : Nat} (h : ∀ j, j < k → E' j = E j) : elsRow E' k n = elsRow E k n := by
  unfold elsRow
  refine List.map_congr_left (fun j _ => ?_)
  by_cases e : j < k
  · simp [e, h j e]
  · simp [e]

/-- The Limiter as it is built: k of n keys are in. -/
structure BS (w wr : World) (D : LD) (bl g n k : Nat) (R : Nat → Rec) (now : Int) : Prop where
  lim : Lim wr D (List.range k)
  dn : D.n = k
  dbl : D.bl = bl
  dB : D.B = w.heap.size
  dnow : D.now = now ∧ D.mu = 0
  dfd : ∀ j, j < k → D.fd j = R j
  row : wr.heap[g]? = some (.cells (elsRow D.E k n).toArray 37 (0, 0))
  glo : w.heap.size ≤ g
  bel : Below w.heap.size w wr

theorem BS.step {w wr w1 w3 : World} {D : LD} {bl g n k b nb : Nat} {R : Nat → Rec} {now : Int} {o : Obj} (h : BS w wr D bl g n k R now) (h1 : Below (wr.alloc o).drew.heap.size (wr.alloc o).drew w1)
    (h3 : Lim w3 (D.snoc b nb (R k)) (List.range (k + 1))) (hF : Fr D.blk w1 w3) : BS w (w3.setCell ⟨g, k, none⟩ (Ptr b)) (D.snoc b nb (R k)) bl g n (k + 1) R now := by
  have hb0 : Below wr.heap.size wr (wr.alloc o).drew := ((Below.refl _ _).alloc (Nat.le_refl _) _).drew
  have s0 : (wr.alloc o).drew.heap.size = wr.heap.size + 1 := by simp
  have hb1 : Below wr.heap.size wr w1 := hb0.trans (h1.mono (by omega))
  have g0 := lt_of_heap h.row
  have ng : ¬ D.blk g := h.lim.notBlk h.row (by decide)
  have r1 : w1.heap[g]? = some (.cells (elsRow D.E k n).toArray 37 (0, 0)) := by rw [hb1.block _ g0]; exact h.row
  have r3 : w3.heap[g]? = some (.cells (elsRow D.E k n).toArray 37 (0, 0)) := by rw [hF.block _ (lt_of_heap r1) ng]; exact r1
  have ng3 : ¬ (D.snoc b nb (R k)).blk g := h3.notBlk r3 (by decide)
  have hset : Fr (fun x => x = g) w3 (w3.setCell ⟨g, k, none⟩ (Ptr b)) := Fr.setCell (S := fun x => x = g) w3 rfl _
  have hl1 := h.lim.below hb1
  have hbel1 : Below w.heap.size w w1 := h.bel.trans (hb1.mono h.bel.size)
  have hbel3 : Below w.heap.size w1 w3 := by
    have := hl1.below_of_fr hF
    rw [h.dB] at this
    exact this
  refine ⟨h3.fr hset (fun x hx e => ng3 (e ▸ hx)), ?_, h.dbl, h.dB, h.dnow, ?_, ?_, h.glo, ?_⟩
  · show D.n + 1 = k + 1
    rw [h.dn]
  · intro j hj
    show (if j = D.n then R k else D.fd j) = R j
    rw [h.dn]
    by_cases e : j = k
    · simp [e]
    · rw [if_neg e]; exact h.dfd j (by omega)
  · rw [heap_setCell_at r3, elsRow_step]
    show some (Obj.cells (elsRow (snocE D.E k b) (k + 1) n).toArray 37 (0, 0)) = some (Obj.cells (elsRow (snocE D.E D.n b) (k + 1) n).toArray 37 (0, 0))
    rw [h.dn]
  · exact (hbel1.trans hbel3).setCell h.glo _

theorem made_replicate (z : Value) (n : Nat) : madeCells #[z] n = (List.replicate n z).toArray := by
  apply Array.ext
  · simp [madeCells]
  · intro j h1 h2
    simp [madeCells, Nat.mod_one]
theorem elsRow_zero (E : Nat → Nat) (n : Nat) : elsRow E 0 n = List.replicate n (.pointer none) := by
  apply List.ext_getElem?
  intro j
  by_cases hj : j < n
  · rw [elsRow_get _ _ _ _ hj, List.getElem?_replicate, if_pos hj]; simp
  · rw [List.getElem?_eq_none (by rw [elsRow_length]; omega), List.getElem?_eq_none (by simp; omega)]
theorem info37 : (Try.prog.info? 37).map (fun i => (i.zero, i.size, i.bytes)) = some (some (.pointer none), 1, 8) := by kernel_rfl
theorem make26 (n : Nat) (hn : n ≤ 16384) (E : Nat → Nat) (w : World) : (Instr.makeSlice 26 (.int .i64 n) (.int .i64 n)).run Try.prog w = .ok (.slice (some ⟨w.heap.size, 0, none⟩) n n) (w.alloc (.cells (elsRow E 0 n).toArray 37)) := by
  obtain ⟨i0, hi, hz0, hz1, hz2⟩ := info_parts info37
  have := run_make (P := Try.prog) w 26 37 i0 (.pointer none) Try.underlying26 hi hz0 .i64 .i64 n n (by omega) (by omega) (by rw [hz2]; omega) (by omega)
  rw [this, elsRow_zero, hz1]
  have hc : Value.cells (.pointer none) = #[.pointer none] := rfl
  rw [hc, Nat.mul_one, Int.toNat_natCast, made_replicate]

/-- The copy 'e := es[i]', in its own block. -/
abbrev ES (wr : World) (k : Nat) (R : Nat → Rec) (w' : World) : Prop := w'.cell? ⟨wr.heap.size, 0, none⟩ = some (.int .i64 (R k).f) ∧ w'.cell? ⟨wr.heap.size, 1, none⟩ = some (.int .i64 (R k).lf) ∧ w'.cell? ⟨wr.heap.size, 2, none⟩ = some (.int .i64 (R k).la) ∧ w'.cell? ⟨wr.heap.size, 3, none⟩ = some (.int .i64 (R k).fl)
theorem ES.step {wr w1 w2 : World} {k : Nat} {R : Nat → Rec} (h : ES wr k R w1) (hb : Below w1.heap.size w1 w2) : ES wr k R w2 := ⟨cell_later hb h.1, cell_later hb h.2.1, cell_later hb h.2.2.1, cell_later hb h.2.2.2⟩
theorem ES.set {wr w1 : World} {k : Nat} {R : Nat → Rec} (h : ES wr k R w1) {g o : Nat} {v : Value} (hg : g ≠ wr.heap.size) : ES wr k R (w1.setCell ⟨g, o, none⟩ v) := by
  have hF : Fr (fun x => x = g) w1 (w1.setCell ⟨g, o, none⟩ v) := Fr.setCell (S := fun x => x = g) w1 rfl v
  exact ⟨cell_fr hF h.1 (fun e => hg e.symm), cell_fr hF h.2.1 (fun e => hg e.symm), cell_fr hF h.2.2.1 (fun e => hg e.symm), cell_fr hF h.2.2.2 (fun e => hg e.symm)⟩

set_option maxRecDepth 20000 in
set_option maxHeartbeats 1600000 in
/-- 'build(es, clock)' -/
theorem build_any (w : World) (a : Option Addr) (n cap : Nat) (R : Nat → Rec) (now : Int) (hn : n ≤ 16384) (hnow : In64 now) (ha : EsV w a n R) (hok : ∀ i, i < n → (R i).ok) :
    Calls Try.prog 14 #[.slice a n cap, .int .i64 now] w fun e w' => ∃ D g, e = .returned (.tuple #[Ptr D.bl, .slice (some ⟨g, 0, none⟩) n n]) ∧ BS w w' D D.bl g n n R now := by
  go_enter Try.func14, Try.ntmps14
  go_wp2_with fail
  refine (ZZNew_lim w now hnow).mono ?_
  rintro e w0 ⟨D0, rfl, hL0, hn0, hB0, hnow0, hb0⟩
  have hmk := make26 n hn D0.E
  have HBS : Hid (BS w (w0.alloc (.cells (elsRow D0.E 0 n).toArray 37)) D0 D0.bl w0.heap.size n 0 R now) :=
    ⟨hL0.below ((Below.refl _ _).alloc (Nat.le_refl _) _), hn0, rfl, hB0, hnow0, fun j hj => by omega, heap_alloc_new _ _, hb0.size, hb0.alloc hb0.size _⟩
  clear hL0 hn0 hB0 hnow0 hb0
  generalize hbl : D0.bl = bl at *
  clear hbl
  go_wp2
  generalize hg : w0.heap.size = g at *
  clear hg
  go_loopw [8] (fun t wr => ∃ (k : Nat) (D : LD), k ≤ n ∧ t = .int .i64 k ∧ BS w wr D bl g n k R now) (fun t _ => n - (intOf t).toNat)
  case atStart => exact ⟨0, D0, Nat.zero_le _, rfl, HBS.out⟩
  case round =>
    obtain ⟨k, D, hk, rfl, hbs⟩ := hrel
    have H : Hid (BS w wr D bl g n k R now) := hbs
    clear hbs HBS hmk
    by_cases hlt : k < n
    · obtain ⟨b, off, rfl, he⟩ := ha (by omega)
      obtain ⟨c0, c1, c2, c3⟩ := he k hlt
      have c0' : wr.cell? ⟨b, off + k * 4, none⟩ = some (.int .i64 (R k).f) := cell_later H.out.bel c0
      have c1' : wr.cell? ⟨b, off + k * 4 + 1, none⟩ = some (.int .i64 (R k).lf) := cell_later H.out.bel c1
      have c2' : wr.cell? ⟨b, off + k * 4 + 2, none⟩ = some (.int .i64 (R k).la) := cell_later H.out.bel c2
      have c3' : wr.cell? ⟨b, off + k * 4 + 3, none⟩ = some (.int .i64 (R k).fl) := cell_later H.out.bel c3
      have hokk := hok k hlt
      have hkI : (k : Int) < n := by omega
      have hP : Hid (∀ W, Lim W D (List.range k) → Calls Try.prog 39 #[Ptr bl, kv k, .int .i64 (R k).f, .int .i64 (R k).lf, .int .i64 (R k).la, .int .i64 (R k).fl] W fun e w' => ∃ b nb, e = .returned (Ptr b) ∧ Lim w' (D.snoc b nb (R k)) (List.range (k + 1)) ∧ Fr D.blk W w') := by
        intro W hW
        have := ZZPush_lim hW (by rw [H.out.dn]; omega) (R k) hokk
        rw [H.out.dn, H.out.dbl, ← List.range_succ] at this
        exact this
      have hE : ∀ (W w' : World), Below (wr.alloc (.cells #[.int .i64 (R k).f, .int .i64 (R k).lf, .int .i64 (R k).la, .int .i64 (R k).fl] 40)).drew.heap.size (wr.alloc (.cells #[.int .i64 (R k).f, .int .i64 (R k).lf, .int .i64 (R k).la, .int .i64 (R k).fl] 40)).drew W → Fr D.blk W w' → 
          ES wr k R W → ES wr k R w' ∧ w'.cell? ⟨g, k, none⟩ = some (.pointer none) ∧ w'.frozen? ⟨g, k, none⟩ = false := by
        intro W w' hb hF hs
        have hb0 : Below wr.heap.size wr W := (((Below.refl _ _).alloc (Nat.le_refl _) _).drew).trans (hb.mono (by simp))
        have ne : ¬ D.blk wr.heap.size := fun hh => by have := H.out.lim.blk_lt hh; omega
        have ng : ¬ D.blk g := H.out.lim.notBlk H.out.row (by decide)
        have r1 : W.heap[g]? = some (.cells (elsRow D.E k n).toArray 37 (0, 0)) := by rw [hb0.block _ (lt_of_heap H.out.row)]; exact H.out.row
        have r3 : w'.heap[g]? = some (.cells (elsRow D.E k n).toArray 37 (0, 0)) := by rw [hF.block _ (lt_of_heap r1) ng]; exact r1
        refine ⟨⟨cell_fr hF hs.1 ne, cell_fr hF hs.2.1 ne, cell_fr hF hs.2.2.1 ne, cell_fr hF hs.2.2.2 ne⟩, ?_, frozen_of_block r3 k⟩
        rw [cell_of_block r3]
        have := elsRow_get D.E k n k hlt
        simpa using this
      have HE : Hid _ := hE
      have hgw : g ≠ wr.heap.size := by have := lt_of_heap H.out.row; omega
      have HS0 : Hid (ES wr k R (wr.alloc (.cells #[.int .i64 (R k).f, .int .i64 (R k).lf, .int .i64 (R k).la, .int .i64 (R k).fl] 40)).drew) := ⟨by simp, by simp, by simp, by simp⟩
      clear he ha hok c0 c1 c2 c3 hE
      go_wp2
      go_region_held3 (fun w' => w'.cell? ⟨wr.heap.size, 0, none⟩ = some (.int .i64 (R k).f) ∧ w'.cell? ⟨wr.heap.size, 1, none⟩ = some (.int .i64 (R k).lf) ∧ w'.cell? ⟨wr.heap.size, 2, none⟩ = some (.int .i64 (R k).la) ∧ w'.cell? ⟨wr.heap.size, 3, none⟩ = some (.int .i64 (R k).fl))
        (first | exact HS0.out | exact ES.step hHA hb1 | exact hES | exact ES.set hES hgw)
        (first | (go_at_call 31; have hHA := ‹_ ∧ _›; refine (keyOf_any k (by omega) _).mono ?_; rintro e w1 ⟨rfl, hb1⟩)
               | (go_at_call 39; have hHB := ‹_ ∧ _›; refine (hP.out _ (H.out.lim.below ((((Below.refl _ _).alloc (Nat.le_refl _) _).drew).trans (hb1.mono (by simp))))).mono ?_; rintro e w3 ⟨bb, nb, rfl, hL3, hF3⟩; obtain ⟨hES, hg1, hg2⟩ := HE.out _ _ hb1 hF3 hHB))
      have HN : Hid _ := H.out.step hb1 hL3 hF3
      clear hL3 hF3 hES hg1 hg2 hHA hHB hb1 HS0 HE hP H
      go_wp2
      go_roundw
      case rel => exact ⟨k + 1, D.snoc bb nb (R k), by omega, by go_num, HN.out⟩
      case measure => simp [intOf]; omega
    · have hkn : k = n := by omega
      subst hkn
      go_wp2
      go_ret2
      refine ⟨D, g, ?_, ?_⟩
      · rw [H.out.dbl]; rfl
      · rw [H.out.dbl]; exact H.out
end Go.Proofs.Qxb6612554a
