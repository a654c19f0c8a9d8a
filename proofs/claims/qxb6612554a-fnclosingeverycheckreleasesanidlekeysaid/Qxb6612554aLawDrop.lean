import Derived.Test.Qxb6612554aInts
namespace Go.Proofs.Qxb6612554a
open Go.ChangeShapes Go.WideShapes Go.ChangeAt Go.RowKit
set_option linter.unusedVariables false

/-- A slice of ints that came in. -/
def OrdV (w : World) (a : Option Addr) (m : Nat) (Zs : Nat → Int) : Prop := 0 < m → ∃ b off, a = some ⟨b, off, none⟩ ∧ ∀ k, k < m → w.cell? ⟨b, off + k, none⟩ = some (.int .i64 (Zs k))

/-- The bools 'gone'. -/
def goneRow (G : Nat → Bool) (n : Nat) : List Value := (List.range n).map fun j => .bool (G j)
theorem goneRow_length (G : Nat → Bool) (n : Nat) : (goneRow G n).length = n := by simp [goneRow]
theorem goneRow_get (G : Nat → Bool) (n j : Nat) (hj : j < n) : (goneRow G n)[j]? = some (.bool (G j)) := by simp [goneRow, hj]
def setB (G : Nat → Bool) (j : Nat) : Nat → Bool := fun i => if i = j then true else G i
theorem goneRow_set (G : Nat → Bool) (n j : Nat) : (goneRow G n).toArray.setIfInBounds j (.bool true) = (goneRow (setB G j) n).toArray := by
  rw [List.setIfInBounds_toArray]
  refine congrArg List.toArray ?_
  apply List.ext_getElem?
  intro t
  rw [List.getElem?_set]
  by_cases ht : t < n
  · rw [goneRow_get _ _ _ ht, goneRow_get _ _ _ ht]
    by_cases e : j = t
    · subst e; simp [goneRow_length, ht, setB]
    · simp only [e, if_false]
      simp [setB, Ne.symm e]
  · rw [List.getElem?_eq_none (l := goneRow (setB G j) n) (by rw [goneRow_length]; omega)]
    by_cases e : j = t
    · subst e; simp [goneRow_length]; omega
    · simp only [e, if_false]
      exact List.getElem?_eq_none (by rw [goneRow_length]; omega)
/-- Those that are left. -/
def leftOf (G : Nat → Bool) (n : Nat) : List Nat := (List.range n).filter fun j => !G j
theorem leftOf_set (G : Nat → Bool) (n j : Nat) : (leftOf G n).erase j = leftOf (setB G j) n := by
  have hd : (leftOf G n).Nodup := List.Nodup.sublist List.filter_sublist List.nodup_range
  rw [hd.erase_eq_filter]
  unfold leftOf
  rw [List.filter_filter]
  refine List.filter_congr (fun x _ => ?_)
  by_cases e : x = j
  · subst e; simp [setB]
  · simp [setB, e]
theorem leftOf_succ (G : Nat → Bool) (n : Nat) : leftOf G (n + 1) = leftOf G n ++ (if G n then [] else [n]) := by
  unfold leftOf
  rw [List.range_succ, List.filter_append]
  cases h : G n <;> simp [h]
theorem leftOf_length (G : Nat → Bool) (n : Nat) : (leftOf G n).length ≤ n := by
  have := List.length_filter_le (fun j => !G j) (List.range n)
  simpa [leftOf] using this

theorem info4 : (Try.prog.info? 4).map (fun i => (i.zero, i.size, i.bytes)) = some (some (.bool false), 1, 1) := by kernel_rfl
theorem goneRow_none (n : Nat) : goneRow (fun _ => false) n = List.replicate n (.bool false) := by
  apply List.ext_getElem?
  intro j
  by_cases hj : j < n
  · rw [goneRow_get _ _ _ hj, List.getElem?_replicate, if_pos hj]
  · rw [List.getElem?_eq_none (by rw [goneRow_length]; omega), List.getElem?_eq_none (by simp; omega)]
theorem make35 (n : Nat) (hn : n ≤ 16384) (w : World) : (Instr.makeSlice 35 (.int .i64 n) (.int .i64 n)).run Try.prog w = .ok (.slice (some ⟨w.heap.size, 0, none⟩) n n) (w.alloc (.cells (goneRow (fun _ => false) n).toArray 4)) := by
  obtain ⟨i0, hi, hz0, hz1, hz2⟩ := info_parts info4
  have := run_make (P := Try.prog) w 35 4 i0 (.bool false) Try.underlying35 hi hz0 .i64 .i64 n n (by omega) (by omega) (by rw [hz2]; omega) (by omega)
  rw [this, goneRow_none, hz1]
  have hc : Value.cells (.bool false) = #[.bool false] := rfl
  rw [hc, Nat.mul_one, Int.toNat_natCast, made_replicate]

set_option maxHeartbeats 400000 in
theorem zzBytes19 (w : World) (a0 a1 : Option Addr) (n m c0 c1 : Nat) (hn : n ≤ maxLen) (hm : m ≤ maxLen) :
    Calls Try.prog 19 #[.slice a0 n c0, .slice a1 m c1] w fun e w' => (e = .returned (.bool true) ∨ e = .returned (.bool false)) ∧ w' = w := by
  unfold maxLen at hn hm
  go_enter Try.func19, Try.ntmps19
  go_wp2
  all_goals (go_ret; first | exact ⟨Or.inl rfl, rfl⟩ | exact ⟨Or.inr rfl, rfl⟩)

/-- The Limiter while keys are dropped. -/
structure DS (w wr : World) (D : LD) (g gg n : Nat) (G : Nat → Bool) : Prop where
  ok : Lim wr D (leftOf G n)
  dn : D.n = n
  dB : D.B = w.heap.size
  row : wr.heap[g]? = some (.cells (elsRow D.E n n).toArray 37 (0, 0))
  gone : wr.heap[gg]? = some (.cells (goneRow G n).toArray 4 (0, 0))
  glo : w.heap.size ≤ gg
  bel : Below w.heap.size w wr
theorem DS.el {w wr : World} {D : LD} {g gg n : Nat} {G : Nat → Bool} (h : DS w wr D g gg n G) {j : Nat} (hj : j < n) : wr.cell? ⟨g, j, none⟩ = some (Ptr (D.E j)) := by
  rw [cell_of_block h.row]
  have := elsRow_get D.E n n j hj
  simpa [hj] using this
theorem DS.gc {w wr : World} {D : LD} {g gg n : Nat} {G : Nat → Bool} (h : DS w wr D g gg n G) {j : Nat} (hj : j < n) : wr.cell? ⟨gg, j, none⟩ = some (.bool (G j)) := by
  rw [cell_of_block h.gone]
  have := goneRow_get G n j hj
  simpa using this
theorem DS.step {w wr w3 : World} {D : LD} {g gg n j : Nat} {G : Nat → Bool} (h : DS w wr D g gg n G) (h3 : Lim w3 D ((leftOf G n).erase j)) (hF : Fr D.blk wr w3) :
    (w3.cell? ⟨gg, j, none⟩ = wr.cell? ⟨gg, j, none⟩ ∧ w3.frozen? ⟨gg, j, none⟩ = false) ∧ DS w (w3.setCell ⟨gg, j, none⟩ (.bool true)) D g gg n (setB G j) := by
  have n1 : ¬ D.blk g := h.ok.notBlk h.row (by decide)
  have n2 : ¬ D.blk gg := h.ok.notBlk h.gone (by decide)
  have r3 : w3.heap[g]? = some (.cells (elsRow D.E n n).toArray 37 (0, 0)) := by rw [hF.block _ (lt_of_heap h.row) n1]; exact h.row
  have g3 : w3.heap[gg]? = some (.cells (goneRow G n).toArray 4 (0, 0)) := by rw [hF.block _ (lt_of_heap h.gone) n2]; exact h.gone
  have hne : g ≠ gg := block_ne r3 g3 (by decide)
  have hset : Fr (fun x => x = gg) w3 (w3.setCell ⟨gg, j, none⟩ (.bool true)) := Fr.setCell (S := fun x => x = gg) w3 rfl _
  refine ⟨⟨World.cell?_of_block (w := wr) (g3.trans h.gone.symm), frozen_of_block g3 j⟩, ?_, h.dn, h.dB, ?_, ?_, h.glo, ?_⟩
  · rw [leftOf_set] at h3
    exact h3.fr hset (fun x hx e => n2 (e ▸ hx))
  · rw [heap_setCell_far hne]; exact r3
  · rw [heap_setCell_at g3, goneRow_set]
  · have hb : Below w.heap.size wr w3 := by
      have := h.ok.below_of_fr hF
      rw [h.dB] at this
      exact this
    exact (h.bel.trans hb).setCell h.glo _

set_option maxRecDepth 20000 in
set_option maxHeartbeats 3200000 in
theorem drop_law (w : World) (a0 a1 : Option Addr) (n m c0 c1 : Nat) (R : Nat → Rec) (Zs : Nat → Int) (hn : n ≤ maxLen) (hm : m ≤ maxLen) (h0 : EsV w a0 n R) (hok : ∀ i, i < n → (R i).ok) (h1 : OrdV w a1 m Zs) :
    Calls Try.prog 5 #[.slice a0 n c0, .slice a1 m c1] w fun e w' => e = .returned (.bool true) ∧ Below w.heap.size w w' := by
  have hZ := zzBytes19 w a0 a1 n m c0 c1 hn hm
  unfold maxLen at hn hm
  go_enter Try.func5, Try.ntmps5
  go_wp2_with fail
  refine hZ.mono ?_
  rintro e w' ⟨he, rfl⟩
  clear hZ
  rcases he with rfl | rfl
  · by_cases hn1 : n ≤ 16384
    · by_cases hm1 : m ≤ 65536
      · have hRe := reachable_any w' a0 n c0 R hn1 h0
        go_wp2_with fail
        refine hRe.mono ?_
        clear hRe
        intro e w1 hpost
        rcases hpost with ⟨rfl, hreach, rfl⟩ | ⟨rfl, rfl⟩
        · have hBu := build_any w1 a0 n c0 R 0 hn1 (by unfold In64; omega) h0 hok
          have H0 : Hid _ := h0
          have H1 : Hid _ := h1
          clear hreach hok h0 h1
          go_wp2_with fail
          refine hBu.mono ?_
          rintro e w2 ⟨D, g, rfl, hbs⟩
          clear hBu
          have hmk := make35 n hn1
          have HD : Hid (DS w1 (w2.alloc (.cells (goneRow (fun _ => false) n).toArray 4)) D g w2.heap.size n (fun _ => false)) := by
            have hb : Below w2.heap.size w2 (w2.alloc (.cells (goneRow (fun _ => false) n).toArray 4)) := (Below.refl _ _).alloc (Nat.le_refl _) _
            refine ⟨?_, hbs.dn, hbs.dB, ?_, heap_alloc_new _ _, hbs.bel.size, hbs.bel.alloc hbs.bel.size _⟩
            · have := hbs.lim.below hb
              have e : leftOf (fun _ => false) n = List.range n := by simp [leftOf]
              rw [e]; exact this
            · rw [hb.block _ (lt_of_heap hbs.row)]; exact hbs.row
          have HF : Hid (∀ j, j < n → D.fd j = R j) := hbs.dfd
          clear hbs
          generalize hbl : D.bl = bl at *
          have HBL : Hid (D.bl = bl) := hbl
          clear hbl
          go_wp2
          generalize hgg : w2.heap.size = gg at *
          clear hgg hmk
          go_loopw [8] (fun t wr => ∃ (k : Nat) (G : Nat → Bool), k ≤ m ∧ t = .int .i64 k ∧ DS w1 wr D g gg n G) (fun t _ => m - (intOf t).toNat)
          case atStart => exact ⟨0, _, Nat.zero_le _, rfl, HD.out⟩
          case round =>
            obtain ⟨k, G, hk, rfl, hds⟩ := hrel
            have HDS : Hid (DS w1 wr D g gg n G) := hds
            clear hds HD
            by_cases hlt : k < m
            · obtain ⟨ob, ooff, rfl, hoc⟩ := H1.out (by omega)
              have hc := cell_later HDS.out.bel (hoc k hlt)
              clear hoc
              generalize Zs k = z at *
              by_cases hz0 : z < 0
              · go_wp2
                go_roundw
                case rel => exact ⟨k + 1, G, by omega, by go_num, HDS.out⟩
                case measure => simp [intOf]; omega
              · by_cases hz1 : z < n
                · obtain ⟨j, rfl⟩ := Int.eq_ofNat_of_zero_le (show 0 ≤ z by omega)
                  have hjn : j < n := by omega
                  have hel := HDS.out.el hjn
                  have hC : Calls Try.prog 20 #[Ptr bl, Ptr (D.E j)] wr fun e w' => e = .returned (.tuple #[]) ∧ Lim w' D ((leftOf G n).erase j) ∧ Fr D.blk wr w' := by
                    have := ZZDrop_lim HDS.out.ok (i := j) (by rw [HDS.out.dn]; exact hjn)
                    rw [HBL.out] at this
                    exact this
                  go_wp2_with fail
                  refine hC.mono ?_
                  rintro e w3 ⟨rfl, hL3, hF3⟩
                  obtain ⟨⟨hg1, hg2⟩, hD3⟩ := HDS.out.step hL3 hF3
                  rw [HDS.out.gc hjn] at hg1
                  have HD3 : Hid _ := hD3
                  clear hD3 hL3 hF3 hC hel hc
                  go_wp2
                  go_roundw
                  case rel => exact ⟨k + 1, setB G j, by omega, by go_num, HD3.out⟩
                  case measure => simp [intOf]; omega
                · go_wp2
                  go_roundw
                  case rel => exact ⟨k + 1, G, by omega, by go_num, HDS.out⟩
                  case measure => simp [intOf]; omega
            · obtain ⟨wo, rfl⟩ : ∃ wo, wo = wr := ⟨wr, rfl⟩
              obtain ⟨Zl, hZl, hmk2⟩ := make31 n (by omega) wo
              have HR0 : Hid (RowI wo.heap.size n [] (wo.alloc (.cells Zl.toArray 3))) := ⟨Zl, heap_alloc_new _ _, by simpa using hZl⟩
              have hbw : Below wo.heap.size wo (wo.alloc (.cells Zl.toArray 3)) := (Below.refl _ _).alloc (Nat.le_refl _) _
              have HBW : Hid _ := hbw
              clear hZl hbw
              go_wp2
              generalize hq : wo.heap.size = q at *
              have HQ : Hid (wo.heap.size = q) := hq
              clear hq hmk2
              go_loopw [10, 11] (fun t u wx => ∃ i : Nat, i ≤ n ∧ u = .int .i64 i ∧ t = .slice (some ⟨q, 0, none⟩) (leftOf G i).length n ∧ RowI q n (leftOf G i) wx ∧ Below q wo wx) (fun _ u _ => n - (intOf u).toNat)
              case atStart => exact ⟨0, Nat.zero_le _, rfl, rfl, HR0.out, HBW.out⟩
              case round =>
                obtain ⟨i, hi, rfl, rfl, hrow, hbx⟩ := hrel
                have HRow : Hid (RowI q n (leftOf G i) wr) := hrow
                have HBX : Hid (Below q wo wr) := hbx
                clear hrow hbx HR0 HBW
                have hll := leftOf_length G i
                by_cases hin : i < n
                · have hgc : wr.cell? ⟨gg, i, none⟩ = some (.bool (G i)) := by
                    have := HBX.out
                    rw [← HQ.out] at this
                    exact cell_later this (HDS.out.gc hin)
                  have hls := leftOf_succ G i
                  have HLS : Hid _ := hls
                  clear hls
                  have hinI : (i : Int) < n := by omega
                  cases hG : G i with
                  | true =>
                    rw [hG] at hgc
                    have HG : Hid (G i = true) := hG
                    clear hG
                    go_wp2
                    go_roundw
                    case rel =>
                      have e : leftOf G (i + 1) = leftOf G i := by rw [HLS.out, HG.out]; simp
                      exact ⟨i + 1, by omega, by go_num, by rw [e], by rw [e]; exact HRow.out, HBX.out⟩
                    case measure => simp [intOf]; omega
                  | false =>
                    rw [hG] at hgc
                    have HG : Hid (G i = false) := hG
                    clear hG
                    have HR1 : Hid (RowI q n (leftOf G i) (wr.alloc (.cells #[.int .i64 (i : Int)] 3))) := HRow.out.later ((Below.refl _ _).alloc (Nat.le_refl _) _)
                    go_wp2_with (refine wpList_append31 (i := i) (g := q) (lim := n) (L := leftOf G i) (by rfl) (.tmp 74) (.tmp 76) (by rfl) (by rfl) (by rfl) (by rfl) HR1.out (by omega) ?_; intro W2 hrow2 hfr2)
                    have HN : Hid (RowI q n (leftOf G i ++ [i]) W2 ∧ Below q wo W2) := by
                      refine ⟨hrow2, HBX.out.trans ?_⟩
                      have hqx := HRow.out.lt
                      exact (((Below.refl _ _).alloc (by omega) _).trans (hfr2.below (by simp; omega) (fun k e => by omega)))
                    clear hrow2 hfr2 HR1
                    go_wp2
                    go_roundw
                    case rel =>
                      have e : leftOf G (i + 1) = leftOf G i ++ [i] := by rw [HLS.out, HG.out]; simp
                      exact ⟨i + 1, by omega, by go_num, by rw [e]; simp, by rw [e]; exact HN.out.1, HN.out.2⟩
                    case measure => simp [intOf]; omega
                · obtain rfl : i = n := by omega
                  have hM : Calls Try.prog 16 #[Ptr bl, .slice (some ⟨q, 0, none⟩) (leftOf G i).length i, .slice a0 i c0] wr fun e w' => e = .returned (.bool true) ∧ Below wr.heap.size wr w' := by
                    have hb := HBX.out
                    rw [← HQ.out] at hb
                    have hb1 : Below w1.heap.size w1 wr := HDS.out.bel.trans (hb.mono HDS.out.bel.size)
                    have := matches_any (HDS.out.ok.below hb) (some ⟨q, 0, none⟩) a0 i i c0 R HRow.out.want (EsV.later H0.out hb1) hn1 (fun j hj => by
                      have hj' : j < i := by
                        have := (List.mem_filter.1 hj).1
                        simpa using this
                      exact ⟨hj', (HF.out j hj').symm⟩)
                    rw [HBL.out] at this
                    exact this
                  go_wp2_with fail
                  refine hM.mono ?_
                  rintro e w9 ⟨rfl, hb9⟩
                  have HB9 : Hid (Below w1.heap.size w1 w9) := by
                    have hb := HBX.out
                    rw [← HQ.out] at hb
                    have hb1 : Below w1.heap.size w1 wr := HDS.out.bel.trans (hb.mono HDS.out.bel.size)
                    exact hb1.trans (hb9.mono hb1.size)
                  clear hM hb9
                  go_wp2
                  go_ret
                  exact ⟨rfl, HB9.out⟩
        · go_wp2
          go_ret
          exact ⟨rfl, Below.refl _ _⟩
      · go_wp2
        go_ret
        exact ⟨rfl, Below.refl _ _⟩
    · go_wp2
      go_ret
      exact ⟨rfl, Below.refl _ _⟩
  · go_wp2
    go_ret
    exact ⟨rfl, Below.refl _ _⟩
end Go.Proofs.Qxb6612554a
