import Derived.Test.Qxb6612554aEndA
namespace Go.Proofs.Qxb6612554a
open Go.ChangeShapes Go.WideShapes Go.ChangeAt Go.RowKit
set_option linter.unusedVariables false
attribute [local go_sem ↓] Go.wp_at_zero Go.wp_at_succ

theorem put_put (D : LD) (i : Nat) (r s : Rec) : (D.put i r).put i s = D.put i s := by
  unfold LD.put
  congr 1
  funext j
  by_cases e : j = i <;> simp [e]
theorem unmu (D : LD) (i : Nat) (r : Rec) (h : D.mu = 0) : ((D.setMu 1).put i r).setMu 0 = D.put i r := by
  cases D
  simp only at h
  subst h
  rfl

/-- AN ATTEMPT IN MEMORY, not among the limiter's blocks. -/
structure Att (W : World) (D : LD) (ba i : Nat) (b : Bool) : Prop where
  blk : W.heap[ba]? = some (.cells #[Ptr D.bl, Ptr (D.E i), .bool b] 69 (0, 0))
  out : ¬ D.blk ba

section
variable {w : World} {D : LD} {ord : List Nat}
theorem Att.fr {w' : World} {ba i : Nat} {b : Bool} (h : Att w D ba i b) (hF : Fr D.blk w w') : Att w' D ba i b := ⟨(hF.block _ (lt_of_heap h.blk) h.out).trans h.blk, h.out⟩

/-- An attempt that has ended: nothing. -/
theorem end_done {ba i : Nat} (h : Att w D ba i true) (o : Int) : Calls Try.prog 44 #[Ptr ba, .int .i64 o] w fun e w' => e = .returned (.tuple #[]) ∧ w' = w := by
  have c2 : w.cell? ⟨ba, 2, none⟩ = some (.bool true) := cell_of_block h.blk 2
  clear h
  go_enter_defers Try.func44, Try.ntmps44
  go_wp2
  exact ⟨_, results_none rfl _ _ _, rfl, rfl⟩

/-- Which blocks 'end' may turn. -/
abbrev U (D : LD) (ba : Nat) (k : Nat) : Prop := D.blk k ∨ k = ba

/-- Behind 'Lock'. -/
theorem lock_state {ba i : Nat} (h : Lim w D ord) (ha : Att w D ba i false) {W : World} (hW : W = (w.setCell ⟨ba, 2, none⟩ (.bool true)).setCell ⟨D.bl, 1, none⟩ (.int .i32 1)) :
    Lim W (D.setMu 1) ord ∧ Att W (D.setMu 1) ba i true ∧ Fr (U D ba) w W := by
  have hF1 : Fr (fun k => k = ba) w (w.setCell ⟨ba, 2, none⟩ (.bool true)) := Fr.setCell (S := fun k => k = ba) w (a := ⟨ba, 2, none⟩) rfl _
  have hL1 : Lim (w.setCell ⟨ba, 2, none⟩ (.bool true)) D ord := h.fr hF1 (fun k hk e => ha.out (e ▸ hk))
  have hF2 : Fr D.blk (w.setCell ⟨ba, 2, none⟩ (.bool true)) W := by
    subst hW
    exact Fr.setCell (S := D.blk) _ (a := ⟨D.bl, 1, none⟩) (Or.inl rfl) _
  refine ⟨by subst hW; exact hL1.relock 1, ⟨?_, ha.out⟩, hF1.trans' hF2 (fun k _ e => Or.inr e) (fun k _ e => Or.inl e)⟩
  rw [hF2.block _ (by have := lt_of_heap ha.blk; have := hF1.size; omega) ha.out]
  exact heap_setCell_at ha.blk _

/-- The record behind 'Failed', ahead of the touch. -/
def failR (r : Rec) (now : Int) : Rec := ⟨wrap64 (r.f + 1), now, r.la, wrap64 (r.fl - 1)⟩
/-- The record behind 'Close', ahead of the touch. -/
def closeR (r : Rec) : Rec := ⟨r.f, r.lf, r.la, wrap64 (r.fl - 1)⟩
theorem in64_wrap (x : Int) : In64 (wrap64 x) := by
  unfold In64 wrap64
  omega
theorem failR_ok {r : Rec} (h : r.ok) {now : Int} (hn : In64 now) : (failR r now).ok := ⟨in64_wrap _, hn, h.2.2.1, in64_wrap _⟩
theorem closeR_ok {r : Rec} (h : r.ok) : (closeR r).ok := ⟨h.1, h.2.1, h.2.2.1, in64_wrap _⟩

/-- INSIDE 'end', the entry turned: w at the call, W now, tb: the time's variable. -/
structure EdS (w W : World) (D0 D : LD) (ord : List Nat) (ba tb i : Nat) : Prop where
  lim : Lim W D ord
  att : Att W D ba i true
  box : W.heap[tb]? = some (.cells (tm D.now) 63 (0, 0))
  tout : ¬ D.blk tb
  fr : Fr (U D0 ba) w W
theorem EdS.below {W W' : World} {D0 : LD} {ba tb i : Nat} (h : EdS w W D0 D ord ba tb i) (hb : Below W.heap.size W W') : EdS w W' D0 D ord ba tb i :=
  ⟨h.lim.below hb, h.att.fr (Fr.of_below hb _ (fun k hk hle => by omega)), (hb.block _ (lt_of_heap h.box)).trans h.box, h.tout, h.fr.trans (Fr.of_below hb _ (fun k hk hle => by omega))⟩
theorem EdS.sim {W W' : World} {D0 : LD} {ba tb i : Nat} (h : EdS w W D0 D ord ba tb i) (hs : Sim W' W) : EdS w W' D0 D ord ba tb i :=
  ⟨h.lim.sim hs, h.att.fr (Fr.of_sim hs _), by rw [hs.heap]; exact h.box, h.tout, h.fr.trans (Fr.of_sim hs _)⟩

theorem failed_state {W3 : World} {D0 : LD} {ba i : Nat} (hL : Lim W3 D ord) (hi : i < D.n) (hA : Att W3 D ba i true) (hF : Fr (U D0 ba) w W3) (hD : D0.blk = D.blk) {W : World}
    (hW : W = (((((W3.setCell ⟨D.N i, 32, none⟩ (.int .i64 (wrap64 ((D.fd i).f + 1)))).setCell ⟨D.N i, 33, none⟩ (.int .u64 (D.now % 1000000000))).setCell ⟨D.N i, 34, none⟩ (.int .i64 (D.now / 1000000000))).setCell ⟨D.N i, 35, none⟩ (.pointer none)).setCell
      ⟨D.N i, 39, none⟩ (.int .i64 (wrap64 ((D.fd i).fl - 1)))).alloc (.cells #[.int .u64 (D.now % 1000000000), .int .i64 (D.now / 1000000000), .pointer none] 63)) : EdS w W D0 (D.put i (failR (D.fd i) D.now)) ord ba W3.heap.size i := by
  have hok := hL.fdok i hi
  have hn := hL.nowok
  obtain ⟨hL1, hF1⟩ := hL.put1 hi (r := ⟨wrap64 ((D.fd i).f + 1), (D.fd i).lf, (D.fd i).la, (D.fd i).fl⟩) ⟨in64_wrap _, hok.2.1, hok.2.2.1, hok.2.2.2⟩ (j := 0) (v := .int .i64 (wrap64 ((D.fd i).f + 1))) rfl
  obtain ⟨hL2, hF2⟩ := hL1.put3 (i := i) hi (r := ⟨wrap64 ((D.fd i).f + 1), D.now, (D.fd i).la, (D.fd i).fl⟩) ⟨in64_wrap _, hn, hok.2.2.1, hok.2.2.2⟩ (j := 1) (v0 := .int .u64 (D.now % 1000000000)) (v1 := .int .i64 (D.now / 1000000000)) (v2 := .pointer none) (by rw [put_at]; rfl)
  obtain ⟨hL3, hF3⟩ := hL2.put1 (i := i) hi (r := failR (D.fd i) D.now) (failR_ok hok hn) (j := 7) (v := .int .i64 (wrap64 ((D.fd i).fl - 1))) (by rw [put_at]; rfl)
  rw [put_put, put_put] at hL3
  have hF' := hF1.trans (hF2.trans hF3)
  have hsz := hF'.size
  have hL4 := hL3.below ((Below.refl _ _).alloc (Nat.le_refl _) (.cells (tm D.now) 63))
  have hF4 := hF'.trans (Fr.alloc D.blk _ (.cells (tm D.now) 63))
  subst hW
  refine ⟨hL4, ⟨(hA.fr hF4).blk, hA.out⟩, ?_, fun hb => ?_, hF.trans (hF4.mono fun k _ hk => Or.inl (hD ▸ hk))⟩
  · have := heap_alloc_new (((((W3.setCell ⟨D.N i, 32, none⟩ (.int .i64 (wrap64 ((D.fd i).f + 1)))).setCell ⟨D.N i, 33, none⟩ (.int .u64 (D.now % 1000000000))).setCell ⟨D.N i, 34, none⟩ (.int .i64 (D.now / 1000000000))).setCell ⟨D.N i, 35, none⟩ (.pointer none)).setCell
      ⟨D.N i, 39, none⟩ (.int .i64 (wrap64 ((D.fd i).fl - 1)))) (.cells (tm D.now) 63)
    have e : (((((W3.setCell ⟨D.N i, 32, none⟩ (.int .i64 (wrap64 ((D.fd i).f + 1)))).setCell ⟨D.N i, 33, none⟩ (.int .u64 (D.now % 1000000000))).setCell ⟨D.N i, 34, none⟩ (.int .i64 (D.now / 1000000000))).setCell ⟨D.N i, 35, none⟩ (.pointer none)).setCell
      ⟨D.N i, 39, none⟩ (.int .i64 (wrap64 ((D.fd i).fl - 1)))).heap.size = W3.heap.size := by simp
    rw [e] at this
    exact this
  · exact absurd (hL.blk_lt hb) (Nat.lt_irrefl _)

theorem closed_state {W3 : World} {D0 : LD} {ba i : Nat} (hL : Lim W3 D ord) (hi : i < D.n) (hA : Att W3 D ba i true) (hF : Fr (U D0 ba) w W3) (hD : D0.blk = D.blk) {W : World}
    (hW : W = (W3.setCell ⟨D.N i, 39, none⟩ (.int .i64 (wrap64 ((D.fd i).fl - 1)))).alloc (.cells #[.int .u64 (D.now % 1000000000), .int .i64 (D.now / 1000000000), .pointer none] 63)) : EdS w W D0 (D.put i (closeR (D.fd i))) ord ba W3.heap.size i := by
  have hok := hL.fdok i hi
  have hn := hL.nowok
  obtain ⟨hL3, hF'⟩ := hL.put1 hi (r := closeR (D.fd i)) (closeR_ok hok) (j := 7) (v := .int .i64 (wrap64 ((D.fd i).fl - 1))) rfl
  have hsz := hF'.size
  have hL4 := hL3.below ((Below.refl _ _).alloc (Nat.le_refl _) (.cells (tm D.now) 63))
  have hF4 := hF'.trans (Fr.alloc D.blk _ (.cells (tm D.now) 63))
  subst hW
  refine ⟨hL4, ⟨(hA.fr hF4).blk, hA.out⟩, ?_, fun hb => ?_, hF.trans (hF4.mono fun k _ hk => Or.inl (hD ▸ hk))⟩
  · have := heap_alloc_new (W3.setCell ⟨D.N i, 39, none⟩ (.int .i64 (wrap64 ((D.fd i).fl - 1)))) (.cells (tm D.now) 63)
    have e : (W3.setCell ⟨D.N i, 39, none⟩ (.int .i64 (wrap64 ((D.fd i).fl - 1)))).heap.size = W3.heap.size := by simp
    rw [e] at this
    exact this
  · exact absurd (hL.blk_lt hb) (Nat.lt_irrefl _)

/-- What the last region of 'end' reads. -/
abbrev US (D : LD) (ba tb i : Nat) (n : Int) (w' : World) : Prop := w'.cell? ⟨ba, 1, none⟩ = some (Ptr (D.E i)) ∧ w'.cell? ⟨tb, 0, none⟩ = some (.int .u64 (n % 1000000000)) ∧ w'.cell? ⟨tb, 1, none⟩ = some (.int .i64 (n / 1000000000)) ∧ w'.cell? ⟨tb, 2, none⟩ = some (.pointer none)
theorem EdS.us {W : World} {D0 : LD} {ba tb i : Nat} (h : EdS w W D0 D ord ba tb i) : US D ba tb i D.now W := ⟨cell_of_block h.att.blk 1, cell_of_block h.box 0, cell_of_block h.box 1, cell_of_block h.box 2⟩
theorem US.later {W W' : World} {ba tb i : Nat} {n : Int} (h : US D ba tb i n W) (hF : Fr D.blk W W') (ha : ¬ D.blk ba) (ht : ¬ D.blk tb) (la : ba < W.heap.size) (lt : tb < W.heap.size) : US D ba tb i n W' := by
  have e : ∀ {b o : Nat}, b < W.heap.size → ¬ D.blk b → W'.cell? ⟨b, o, none⟩ = W.cell? ⟨b, o, none⟩ := by
    intro b o hb hn
    have := hF.block b hb hn
    simp only [World.cell?, this]
  exact ⟨(e la ha).trans h.1, (e lt ht).trans h.2.1, (e lt ht).trans h.2.2.1, (e lt ht).trans h.2.2.2⟩
/-- Behind 'touch' or 'drop': the lock let go. -/
theorem EdS.shut {W W' W'' : World} {D0 D' : LD} {ord' : List Nat} {ba tb i : Nat} (h : EdS w W D0 D ord ba tb i) (hF : Fr D.blk W W') (hL : Lim W' D' ord') (hB : D'.bl = D.bl) (hE : D'.E = D.E) (hb : D'.blk = D.blk) (hD : D0.blk = D.blk)
    (hW : W'' = W'.setCell ⟨D.bl, 1, none⟩ (.int .i32 0)) : Lim W'' (D'.setMu 0) ord' ∧ Att W'' (D'.setMu 0) ba i true ∧ Fr (U D0 ba) w W'' := by
  have hA := h.att.fr hF
  have hF2 : Fr D.blk W' W'' := by subst hW; exact Fr.setCell (S := D.blk) _ (a := ⟨D.bl, 1, none⟩) (Or.inl rfl) _
  have hA2 := hA.fr hF2
  have hL2 := hL.relock 0
  rw [hB] at hL2
  have b2 := hA2.blk
  have o2 := hA2.out
  rw [← hE, ← hB] at b2
  rw [← hb] at o2
  exact ⟨by subst hW; exact hL2, ⟨b2, o2⟩, h.fr.trans ((hF.trans hF2).mono fun k _ hk => Or.inl (hD ▸ hk))⟩

set_option maxHeartbeats 1600000 in
theorem end_failed {ba i : Nat} (h : Lim w D ord) (hmu : D.mu = 0) (ha : Att w D ba i false) (hi : i ∈ ord) (hpos : 0 ≤ (D.fd i).f) :
    Calls Try.prog 44 #[Ptr ba, .int .i64 2] w fun e w' => e = .returned (.tuple #[]) ∧ 
      (Lim w' (D.put i { failR (D.fd i) D.now with la := D.now }) (ord.erase i ++ [i]) ∧ Att w' (D.put i { failR (D.fd i) D.now with la := D.now }) ba i true ∧ Fr (U D ba) w w') := by
  have hnz : ¬ wrap64 ((D.fd i).f + 1) = 0 := by
    have := (h.fdok i (h.lt hi)).1
    unfold In64 at this
    unfold wrap64
    omega
  have c0 : w.cell? ⟨ba, 0, none⟩ = some (Ptr D.bl) := cell_of_block ha.blk 0
  have c2 : w.cell? ⟨ba, 2, none⟩ = some (.bool false) := cell_of_block ha.blk 2
  have f2 : w.frozen? ⟨ba, 2, none⟩ = false := frozen_of_block ha.blk 2
  have hlk := lock65 ⟨D.bl, 1, none⟩ (w.setCell ⟨ba, 2, none⟩ (.bool true)) (by
    rw [World.cell?_setCell_other _ _ _ _ (by have := ha.out; intro e; injection e with e; exact this (e ▸ Or.inl rfl)), cell_of_block h.lim 1]
    simp [hmu]) (by
      have := frozen_of_block h.lim 1
      simpa using this)
  have hin := h.lt hi
  have HL : Hid _ := h
  have HA : Hid _ := ha
  clear h ha
  go_enter_defers Try.func44, Try.ntmps44
  go_wp2_with fail
  refine hlk.mono ?_
  rintro e W ⟨rfl, hW⟩
  obtain ⟨hL, hA, hF⟩ := lock_state HL.out HA.out hW
  clear hW hlk c0 c2 f2
  have c0 : W.cell? ⟨D.bl, 0, none⟩ = some (.func (.func 55) #[] #[Ptr D.bt]) := cell_of_block hL.lim 0
  have hnow := now55 hL
  clear HL HA
  have HL : Hid _ := hL
  have HA : Hid _ := hA
  have HF : Hid _ := hF
  clear hL hA hF
  go_wp2_with fail
  refine hnow.mono ?_
  rintro e W3 ⟨rfl, hb3⟩
  have hL3 := HL.out.below hb3
  have hA3 : Att W3 (D.setMu 1) ba i true := HA.out.fr (Fr.of_below hb3 _ (fun k hk hle => by omega))
  have HF3 : Hid (Fr (U D ba) w W3) := HF.out.trans (Fr.of_below hb3 _ (fun k hk hle => by omega))
  clear HL HA HF hb3 c0 hnow
  have b1 : W3.cell? ⟨ba, 1, none⟩ = some (Ptr (D.E i)) := cell_of_block hA3.blk 1
  have v3 : W3.cell? ⟨D.E i, 3, none⟩ = some (.iface 95 (Ptr (D.N i))) := hL3.val hin
  have n0 : W3.cell? ⟨D.N i, 32, none⟩ = some (.int .i64 (D.fd i).f) := hL3.ec hin 0
  have n1 : W3.cell? ⟨D.N i, 33, none⟩ = some (.int .u64 ((D.fd i).lf % 1000000000)) := hL3.ec hin 1
  have n2 : W3.cell? ⟨D.N i, 34, none⟩ = some (.int .i64 ((D.fd i).lf / 1000000000)) := hL3.ec hin 2
  have n3 : W3.cell? ⟨D.N i, 35, none⟩ = some (.pointer none) := hL3.ec hin 3
  have n7 : W3.cell? ⟨D.N i, 39, none⟩ = some (.int .i64 (D.fd i).fl) := hL3.ec hin 7
  have g0 : W3.frozen? ⟨D.N i, 32, none⟩ = false := hL3.ef hin 32
  have g1 : W3.frozen? ⟨D.N i, 33, none⟩ = false := hL3.ef hin 33
  have g2 : W3.frozen? ⟨D.N i, 34, none⟩ = false := hL3.ef hin 34
  have g3 : W3.frozen? ⟨D.N i, 35, none⟩ = false := hL3.ef hin 35
  have g7 : W3.frozen? ⟨D.N i, 39, none⟩ = false := hL3.ef hin 39
  have lN : D.N i < W3.heap.size := hL3.blk_lt (Or.inr (Or.inr (Or.inr (Or.inr ⟨i, hin, rfl⟩))))
  have lE : D.E i < W3.heap.size := hL3.blk_lt (Or.inr (Or.inr (Or.inr (Or.inl (Or.inr ⟨i, hin, rfl⟩)))))
  have la : ba < W3.heap.size := lt_of_heap hA3.blk
  have eN : ¬ W3.heap.size = D.N i := by omega
  have eE : ¬ W3.heap.size = D.E i := by omega
  have ea : ¬ W3.heap.size = ba := by omega
  have HL : Hid _ := hL3
  have HA : Hid _ := hA3
  have hta := ta95
  clear hL3 hA3
  unfold tm
  go_wp2_with fail
  clear b1 v3 n0 n1 n2 n3 n7 g0 g1 g2 g3 g7 lN lE la eN eE ea hta
  generalize hW4 : World.alloc _ _ = W4
  have hES := failed_state HL.out hin HA.out HF3.out rfl hW4.symm
  clear hW4 HF3 HL HA
  refine (decideHeld_lim hES.lim hin (D.setMu 1).now).mono ?_
  rintro e W5 ⟨rfl, hb5⟩
  replace hES := hES.below hb5
  clear hb5
  have m0 : W5.cell? ⟨D.N i, 32, none⟩ = some (.int .i64 (wrap64 ((D.fd i).f + 1))) := by have := hES.lim.ec hin 0; rw [put_at] at this; exact this
  have HES : Hid _ := hES
  have hUS : US D ba W3.heap.size i D.now W5.drew := (hES.sim (Sim.drew W5)).us
  have H0 : Hid _ := hUS
  clear hES hUS
  generalize W3.heap.size = tb at *
  go_wp2_with fail
  go_region_held3 (US D ba tb i D.now)
    (first | exact H0.out | exact US.later (D := D) H0.out hF6 HES.out.att.out HES.out.tout (lt_of_heap HES.out.att.blk) (lt_of_heap HES.out.box))
    (first | (go_at_call 68; refine (touch_lim (HES.out.lim.sim (Sim.drew W5)) hi HES.out.lim.nowok).mono ?_; rintro e W6 ⟨rfl, hL6, hF6⟩))
  have HL6 : Hid _ := hL6
  have HF6 : Hid _ := hF6
  clear hL6 hF6
  go_wp2_with fail
  refine leaves_cons (f := 66) (args := #[.pointer (some ⟨D.bl, 1, none⟩)]) (by simp) (by simp [go_sem]) ?_
  refine (unlock66 ⟨D.bl, 1, none⟩ _ _ (cell_of_block HL6.out.lim 1) (frozen_of_block HL6.out.lim 1)).mono ?_
  rintro e u' W7 ⟨rfl, rfl, hW7⟩
  refine ⟨_, results_none rfl _ _ _, rfl, ?_⟩
  obtain ⟨q1, q2, q3⟩ := (HES.out.sim (Sim.drew W5)).shut HF6.out HL6.out rfl rfl rfl rfl hW7
  rw [put_at, put_put, unmu _ _ _ hmu] at q1 q2
  exact ⟨q1, q2, q3⟩
set_option maxHeartbeats 1600000 in
theorem end_closed {ba i : Nat} (h : Lim w D ord) (hmu : D.mu = 0) (ha : Att w D ba i false) (hi : i ∈ ord) (hz : ¬ ((D.fd i).f = 0 ∧ wrap64 ((D.fd i).fl - 1) = 0)) :
    Calls Try.prog 44 #[Ptr ba, .int .i64 0] w fun e w' => e = .returned (.tuple #[]) ∧ 
      (Lim w' (D.put i { closeR (D.fd i) with la := D.now }) (ord.erase i ++ [i]) ∧ Att w' (D.put i { closeR (D.fd i) with la := D.now }) ba i true ∧ Fr (U D ba) w w') := by
  have c0 : w.cell? ⟨ba, 0, none⟩ = some (Ptr D.bl) := cell_of_block ha.blk 0
  have c2 : w.cell? ⟨ba, 2, none⟩ = some (.bool false) := cell_of_block ha.blk 2
  have f2 : w.frozen? ⟨ba, 2, none⟩ = false := frozen_of_block ha.blk 2
  have hlk := lock65 ⟨D.bl, 1, none⟩ (w.setCell ⟨ba, 2, none⟩ (.bool true)) (by
    rw [World.cell?_setCell_other _ _ _ _ (by have := ha.out; intro e; injection e with e; exact this (e ▸ Or.inl rfl)), cell_of_block h.lim 1]
    simp [hmu]) (by
      have := frozen_of_block h.lim 1
      simpa using this)
  have hin := h.lt hi
  have HL : Hid _ := h
  have HA : Hid _ := ha
  clear h ha
  go_enter_defers Try.func44, Try.ntmps44
  go_wp2_with fail
  refine hlk.mono ?_
  rintro e W ⟨rfl, hW⟩
  obtain ⟨hL, hA, hF⟩ := lock_state HL.out HA.out hW
  clear hW hlk c0 c2 f2
  have c0 : W.cell? ⟨D.bl, 0, none⟩ = some (.func (.func 55) #[] #[Ptr D.bt]) := cell_of_block hL.lim 0
  have hnow := now55 hL
  clear HL HA
  have HL : Hid _ := hL
  have HA : Hid _ := hA
  have HF : Hid _ := hF
  clear hL hA hF
  go_wp2_with fail
  refine hnow.mono ?_
  rintro e W3 ⟨rfl, hb3⟩
  have hL3 := HL.out.below hb3
  have hA3 : Att W3 (D.setMu 1) ba i true := HA.out.fr (Fr.of_below hb3 _ (fun k hk hle => by omega))
  have HF3 : Hid (Fr (U D ba) w W3) := HF.out.trans (Fr.of_below hb3 _ (fun k hk hle => by omega))
  clear HL HA HF hb3 c0 hnow
  have b1 : W3.cell? ⟨ba, 1, none⟩ = some (Ptr (D.E i)) := cell_of_block hA3.blk 1
  have v3 : W3.cell? ⟨D.E i, 3, none⟩ = some (.iface 95 (Ptr (D.N i))) := hL3.val hin
  have n0 : W3.cell? ⟨D.N i, 32, none⟩ = some (.int .i64 (D.fd i).f) := hL3.ec hin 0
  have n1 : W3.cell? ⟨D.N i, 33, none⟩ = some (.int .u64 ((D.fd i).lf % 1000000000)) := hL3.ec hin 1
  have n2 : W3.cell? ⟨D.N i, 34, none⟩ = some (.int .i64 ((D.fd i).lf / 1000000000)) := hL3.ec hin 2
  have n3 : W3.cell? ⟨D.N i, 35, none⟩ = some (.pointer none) := hL3.ec hin 3
  have n7 : W3.cell? ⟨D.N i, 39, none⟩ = some (.int .i64 (D.fd i).fl) := hL3.ec hin 7
  have g0 : W3.frozen? ⟨D.N i, 32, none⟩ = false := hL3.ef hin 32
  have g1 : W3.frozen? ⟨D.N i, 33, none⟩ = false := hL3.ef hin 33
  have g2 : W3.frozen? ⟨D.N i, 34, none⟩ = false := hL3.ef hin 34
  have g3 : W3.frozen? ⟨D.N i, 35, none⟩ = false := hL3.ef hin 35
  have g7 : W3.frozen? ⟨D.N i, 39, none⟩ = false := hL3.ef hin 39
  have lN : D.N i < W3.heap.size := hL3.blk_lt (Or.inr (Or.inr (Or.inr (Or.inr ⟨i, hin, rfl⟩))))
  have lE : D.E i < W3.heap.size := hL3.blk_lt (Or.inr (Or.inr (Or.inr (Or.inl (Or.inr ⟨i, hin, rfl⟩)))))
  have la : ba < W3.heap.size := lt_of_heap hA3.blk
  have eN : ¬ W3.heap.size = D.N i := by omega
  have eE : ¬ W3.heap.size = D.E i := by omega
  have ea : ¬ W3.heap.size = ba := by omega
  have HL : Hid _ := hL3
  have HA : Hid _ := hA3
  have hta := ta95
  clear hL3 hA3
  unfold tm
  go_wp2_with fail
  clear b1 v3 n0 n1 n2 n3 n7 g0 g1 g2 g3 g7 lN lE la eN eE ea hta
  generalize hW4 : World.alloc _ _ = W4
  have hES := closed_state HL.out hin HA.out HF3.out rfl hW4.symm
  clear hW4 HF3 HL HA
  refine (decideHeld_lim hES.lim hin (D.setMu 1).now).mono ?_
  rintro e W5 ⟨rfl, hb5⟩
  replace hES := hES.below hb5
  clear hb5
  have m0 : W5.cell? ⟨D.N i, 32, none⟩ = some (.int .i64 (D.fd i).f) := by have := hES.lim.ec hin 0; rw [put_at] at this; exact this
  have m7 : W5.cell? ⟨D.N i, 39, none⟩ = some (.int .i64 (wrap64 ((D.fd i).fl - 1))) := by have := hES.lim.ec hin 7; rw [put_at] at this; exact this
  have HES : Hid _ := hES
  have hUS : US D ba W3.heap.size i D.now W5.drew := (hES.sim (Sim.drew W5)).us
  have H0 : Hid _ := hUS
  clear hES hUS
  generalize W3.heap.size = tb at *
  by_cases hf : (D.fd i).f = 0
  · have hl : ¬ wrap64 ((D.fd i).fl - 1) = 0 := fun e => hz ⟨hf, e⟩
    go_wp2_with fail
    go_region_held3 (US D ba tb i D.now)
      (first | exact H0.out | exact US.later (D := D) H0.out hF6 HES.out.att.out HES.out.tout (lt_of_heap HES.out.att.blk) (lt_of_heap HES.out.box))
      (first | (go_at_call 68; refine (touch_lim (HES.out.lim.sim (Sim.drew W5)) hi HES.out.lim.nowok).mono ?_; rintro e W6 ⟨rfl, hL6, hF6⟩))
    have HL6 : Hid _ := hL6
    have HF6 : Hid _ := hF6
    clear hL6 hF6
    go_wp2_with fail
    refine leaves_cons (f := 66) (args := #[.pointer (some ⟨D.bl, 1, none⟩)]) (by simp) (by simp [go_sem]) ?_
    refine (unlock66 ⟨D.bl, 1, none⟩ _ _ (cell_of_block HL6.out.lim 1) (frozen_of_block HL6.out.lim 1)).mono ?_
    rintro e u' W7 ⟨rfl, rfl, hW7⟩
    refine ⟨_, results_none rfl _ _ _, rfl, ?_⟩
    obtain ⟨q1, q2, q3⟩ := (HES.out.sim (Sim.drew W5)).shut HF6.out HL6.out rfl rfl rfl rfl hW7
    rw [put_at, put_put, unmu _ _ _ hmu] at q1 q2
    exact ⟨q1, q2, q3⟩
  · go_wp2_with fail
    go_region_held3 (US D ba tb i D.now)
      (first | exact H0.out | exact US.later (D := D) H0.out hF6 HES.out.att.out HES.out.tout (lt_of_heap HES.out.att.blk) (lt_of_heap HES.out.box))
      (first | (go_at_call 68; refine (touch_lim (HES.out.lim.sim (Sim.drew W5)) hi HES.out.lim.nowok).mono ?_; rintro e W6 ⟨rfl, hL6, hF6⟩))
    have HL6 : Hid _ := hL6
    have HF6 : Hid _ := hF6
    clear hL6 hF6
    go_wp2_with fail
    refine leaves_cons (f := 66) (args := #[.pointer (some ⟨D.bl, 1, none⟩)]) (by simp) (by simp [go_sem]) ?_
    refine (unlock66 ⟨D.bl, 1, none⟩ _ _ (cell_of_block HL6.out.lim 1) (frozen_of_block HL6.out.lim 1)).mono ?_
    rintro e u' W7 ⟨rfl, rfl, hW7⟩
    refine ⟨_, results_none rfl _ _ _, rfl, ?_⟩
    obtain ⟨q1, q2, q3⟩ := (HES.out.sim (Sim.drew W5)).shut HF6.out HL6.out rfl rfl rfl rfl hW7
    rw [put_at, put_put, unmu _ _ _ hmu] at q1 q2
    exact ⟨q1, q2, q3⟩

set_option maxHeartbeats 1600000 in
theorem end_dropped {ba i : Nat} (h : Lim w D ord) (hmu : D.mu = 0) (ha : Att w D ba i false) (hi : i ∈ ord) (hf : (D.fd i).f = 0) (hl : wrap64 ((D.fd i).fl - 1) = 0) :
    Calls Try.prog 44 #[Ptr ba, .int .i64 0] w fun e w' => e = .returned (.tuple #[]) ∧ 
      (Lim w' (D.put i (closeR (D.fd i))) (ord.erase i) ∧ Att w' (D.put i (closeR (D.fd i))) ba i true ∧ Fr (U D ba) w w') := by
  have Hl : Hid (wrap64 ((D.fd i).fl - 1) = 0) := hl
  clear hl
  have c0 : w.cell? ⟨ba, 0, none⟩ = some (Ptr D.bl) := cell_of_block ha.blk 0
  have c2 : w.cell? ⟨ba, 2, none⟩ = some (.bool false) := cell_of_block ha.blk 2
  have f2 : w.frozen? ⟨ba, 2, none⟩ = false := frozen_of_block ha.blk 2
  have hlk := lock65 ⟨D.bl, 1, none⟩ (w.setCell ⟨ba, 2, none⟩ (.bool true)) (by
    rw [World.cell?_setCell_other _ _ _ _ (by have := ha.out; intro e; injection e with e; exact this (e ▸ Or.inl rfl)), cell_of_block h.lim 1]
    simp [hmu]) (by
      have := frozen_of_block h.lim 1
      simpa using this)
  have hin := h.lt hi
  have HL : Hid _ := h
  have HA : Hid _ := ha
  clear h ha
  go_enter_defers Try.func44, Try.ntmps44
  go_wp2_with fail
  refine hlk.mono ?_
  rintro e W ⟨rfl, hW⟩
  obtain ⟨hL, hA, hF⟩ := lock_state HL.out HA.out hW
  clear hW hlk c0 c2 f2
  have c0 : W.cell? ⟨D.bl, 0, none⟩ = some (.func (.func 55) #[] #[Ptr D.bt]) := cell_of_block hL.lim 0
  have hnow := now55 hL
  clear HL HA
  have HL : Hid _ := hL
  have HA : Hid _ := hA
  have HF : Hid _ := hF
  clear hL hA hF
  go_wp2_with fail
  refine hnow.mono ?_
  rintro e W3 ⟨rfl, hb3⟩
  have hL3 := HL.out.below hb3
  have hA3 : Att W3 (D.setMu 1) ba i true := HA.out.fr (Fr.of_below hb3 _ (fun k hk hle => by omega))
  have HF3 : Hid (Fr (U D ba) w W3) := HF.out.trans (Fr.of_below hb3 _ (fun k hk hle => by omega))
  clear HL HA HF hb3 c0 hnow
  have b1 : W3.cell? ⟨ba, 1, none⟩ = some (Ptr (D.E i)) := cell_of_block hA3.blk 1
  have v3 : W3.cell? ⟨D.E i, 3, none⟩ = some (.iface 95 (Ptr (D.N i))) := hL3.val hin
  have n0 : W3.cell? ⟨D.N i, 32, none⟩ = some (.int .i64 (D.fd i).f) := hL3.ec hin 0
  have n1 : W3.cell? ⟨D.N i, 33, none⟩ = some (.int .u64 ((D.fd i).lf % 1000000000)) := hL3.ec hin 1
  have n2 : W3.cell? ⟨D.N i, 34, none⟩ = some (.int .i64 ((D.fd i).lf / 1000000000)) := hL3.ec hin 2
  have n3 : W3.cell? ⟨D.N i, 35, none⟩ = some (.pointer none) := hL3.ec hin 3
  have n7 : W3.cell? ⟨D.N i, 39, none⟩ = some (.int .i64 (D.fd i).fl) := hL3.ec hin 7
  have g0 : W3.frozen? ⟨D.N i, 32, none⟩ = false := hL3.ef hin 32
  have g1 : W3.frozen? ⟨D.N i, 33, none⟩ = false := hL3.ef hin 33
  have g2 : W3.frozen? ⟨D.N i, 34, none⟩ = false := hL3.ef hin 34
  have g3 : W3.frozen? ⟨D.N i, 35, none⟩ = false := hL3.ef hin 35
  have g7 : W3.frozen? ⟨D.N i, 39, none⟩ = false := hL3.ef hin 39
  have lN : D.N i < W3.heap.size := hL3.blk_lt (Or.inr (Or.inr (Or.inr (Or.inr ⟨i, hin, rfl⟩))))
  have lE : D.E i < W3.heap.size := hL3.blk_lt (Or.inr (Or.inr (Or.inr (Or.inl (Or.inr ⟨i, hin, rfl⟩)))))
  have la : ba < W3.heap.size := lt_of_heap hA3.blk
  have eN : ¬ W3.heap.size = D.N i := by omega
  have eE : ¬ W3.heap.size = D.E i := by omega
  have ea : ¬ W3.heap.size = ba := by omega
  have HL : Hid _ := hL3
  have HA : Hid _ := hA3
  have hta := ta95
  clear hL3 hA3
  unfold tm
  go_wp2_with fail
  clear b1 v3 n0 n1 n2 n3 n7 g0 g1 g2 g3 g7 lN lE la eN eE ea hta
  generalize hW4 : World.alloc _ _ = W4
  have hES := closed_state HL.out hin HA.out HF3.out rfl hW4.symm
  clear hW4 HF3 HL HA
  refine (decideHeld_lim hES.lim hin (D.setMu 1).now).mono ?_
  rintro e W5 ⟨rfl, hb5⟩
  replace hES := hES.below hb5
  clear hb5
  have m0 : W5.cell? ⟨D.N i, 32, none⟩ = some (.int .i64 (D.fd i).f) := by have := hES.lim.ec hin 0; rw [put_at] at this; exact this
  have m7 : W5.cell? ⟨D.N i, 39, none⟩ = some (.int .i64 (wrap64 ((D.fd i).fl - 1))) := by have := hES.lim.ec hin 7; rw [put_at] at this; exact this
  have HES : Hid _ := hES
  clear hES
  generalize W3.heap.size = tb at *
  have hl := Hl.out
  have b1 : W5.cell? ⟨ba, 1, none⟩ = some (Ptr (D.E i)) := cell_of_block HES.out.att.blk 1
  go_wp2_with fail
  refine (drop_lim HES.out.lim hin).mono ?_
  rintro e W6 ⟨rfl, hL6, hF6⟩
  have HL6 : Hid _ := hL6
  have HF6 : Hid _ := hF6
  clear hL6 hF6
  go_wp2_with fail
  refine leaves_cons (f := 66) (args := #[.pointer (some ⟨D.bl, 1, none⟩)]) (by simp) (by simp [go_sem]) ?_
  refine (unlock66 ⟨D.bl, 1, none⟩ _ _ (cell_of_block HL6.out.lim 1) (frozen_of_block HL6.out.lim 1)).mono ?_
  rintro e u' W7 ⟨rfl, rfl, hW7⟩
  refine ⟨_, results_none rfl _ _ _, rfl, ?_⟩
  obtain ⟨q1, q2, q3⟩ := HES.out.shut HF6.out HL6.out rfl rfl rfl rfl hW7
  rw [unmu _ _ _ hmu] at q1 q2
  exact ⟨q1, q2, q3⟩

end
end Go.Proofs.Qxb6612554a
