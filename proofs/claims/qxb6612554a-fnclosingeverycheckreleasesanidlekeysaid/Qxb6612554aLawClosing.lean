import Derived.Test.Qxb6612554aClosing
namespace Go.Proofs.Qxb6612554a
open Go.ChangeShapes Go.WideShapes Go.ChangeAt Go.RowKit
set_option linter.unusedVariables false
set_option linter.unusedSimpArgs false

theorem CS.below {w1 wr w2 : World} {D : LD} {r : Rec} {R : Nat → Rec} {n i m g kb : Nat} {now : Int} (h : CS w1 wr D r R n i m g kb now) (hb : Below wr.heap.size wr w2) : CS w1 w2 D r R n i m g kb now :=
  ⟨h.lim.below hb, h.dn, h.dB, h.dnow, h.dfd, h.rf, h.rlf, h.rfl, h.rla, by rw [hb.block _ (lt_of_heap h.row)]; exact h.row, range_later hb h.key, h.kout, Nat.lt_of_lt_of_le h.klt hb.size, h.bel.trans (hb.mono h.bel.size)⟩

set_option maxRecDepth 20000 in
set_option maxHeartbeats 6400000 in
theorem closing_law (w : World) (a0 : Option Addr) (n c0 : Nat) (z kz now : Int) (R : Nat → Rec) (hn : n ≤ maxLen) (hnow : In64 now) (h0 : EsV w a0 n R) (hok : ∀ i, i < n → (R i).ok) :
    Calls Try.prog 10 #[.slice a0 n c0, .int .i64 z, .int .i64 kz, .int .i64 now] w fun e w' => e = .returned (.bool true) ∧ Below w.heap.size w w' := by
  have hZ := zzBytes34 w a0 n c0 z kz now hn
  unfold maxLen at hn
  go_enter Try.func10, Try.ntmps10
  go_wp2_with fail
  refine hZ.mono ?_
  rintro e w' ⟨he, rfl⟩
  clear hZ
  rcases he with rfl | rfl
  rotate_left
  · go_wp2
    go_ret
    exact ⟨rfl, Below.refl _ _⟩
  by_cases hn1 : n ≤ 16384
  rotate_left
  · go_wp2
    go_ret
    exact ⟨rfl, Below.refl _ _⟩
  by_cases hz0 : z < 0
  · go_wp2
    go_ret
    exact ⟨rfl, Below.refl _ _⟩
  by_cases hz1 : z < n
  rotate_left
  · go_wp2
    go_ret
    exact ⟨rfl, Below.refl _ _⟩
  by_cases hk0 : kz < 0
  · go_wp2
    go_ret
    exact ⟨rfl, Below.refl _ _⟩
  by_cases hk1 : kz ≤ 65536
  rotate_left
  · go_wp2
    go_ret
    exact ⟨rfl, Below.refl _ _⟩
  obtain ⟨i, rfl⟩ := Int.eq_ofNat_of_zero_le (show 0 ≤ z by omega)
  obtain ⟨kk, rfl⟩ := Int.eq_ofNat_of_zero_le (show 0 ≤ kz by omega)
  have hi : i < n := by omega
  have hRe := reachable_any w' a0 n c0 R hn1 h0
  go_wp2_with fail
  refine hRe.mono ?_
  clear hRe
  intro e w1 hpost
  rcases hpost with ⟨rfl, hreach, rfl⟩ | ⟨rfl, rfl⟩
  rotate_left
  · go_wp2
    go_ret
    exact ⟨rfl, Below.refl _ _⟩
  obtain ⟨b, off, rfl, hes⟩ := h0 (by omega)
  obtain ⟨e0, e1, e2, e3⟩ := hes i hi
  by_cases hfl : (R i).fl < kk
  · go_wp2
    go_ret
    exact ⟨rfl, Below.refl _ _⟩
  have hbq : b < w1.heap.size := by
    by_cases h : b < w1.heap.size
    · exact h
    · exfalso
      have : w1.heap[b]? = none := by simp; omega
      simp [World.cell?, this] at e0
  have HES : Hid (EsAt w1 b off n R) := hes
  have HOK : Hid _ := hok
  clear h0 hok
  have hBu := build_any w1 (some ⟨b, off, none⟩) n c0 R now hn1 hnow (fun _ => ⟨b, off, rfl, hes⟩) HOK.out
  clear hes hreach
  go_wp2_with fail
  refine hBu.mono ?_
  rintro e w2 ⟨D, g, rfl, hbs⟩
  clear hBu
  have HBS : Hid _ := hbs
  clear hbs
  go_wp2_with (first | (go_at_call 31; refine (keyOf_any i (by omega) _).mono ?_; rintro e w3 ⟨rfl, hb3⟩)
                     | (refine wpList_store_fresh49 (i := i) (by rfl) (.tmp 11) (.tmp 60) (by rfl) (by rfl) (by rfl) (by rfl) ?_; intro W2 hb2 hr2 hs2))
  have HCS : Hid (CS w1 W2 D (D.fd i) R n i 0 g w3.heap.size now) := by
    have hbs := HBS.out
    have l3 := hbs.lim.below hb3
    have h23 : Below w2.heap.size w2 W2 := hb3.trans (hb2.mono hb3.size)
    have hd := hbs.dfd i hi
    refine ⟨?_, hbs.dn, hbs.dB, hbs.dnow, fun j hj _ => hbs.dfd j hj, by rw [hd], by rw [hd], by rw [hd]; simp, fun _ => by rw [hd]; simp, ?_, hr2, fun hb => absurd (l3.blk_lt hb) (Nat.lt_irrefl _), hs2, hbs.bel.trans (h23.mono hbs.bel.size)⟩
    · rw [put_self]; exact hbs.lim.below h23
    · rw [h23.block _ (lt_of_heap hbs.row)]; exact hbs.row
  clear hb3 hb2 hr2 hs2 HBS
  generalize w3.heap.size = kb at *
  go_loopw [12] (fun t wr => ∃ (m : Nat) (r : Rec), m ≤ kk ∧ t = .int .i64 ((m : Int) + 1) ∧ CS w1 wr D r R n i m g kb now) (fun t _ => kk + 1 - (intOf t).toNat)
  case atStart => exact ⟨0, _, Nat.zero_le _, rfl, HCS.out⟩
  case round =>
    obtain ⟨m, r, hmk, rfl, hcs⟩ := hrel
    have hrok := HOK.out i hi
    have hfl64 := hrok.2.2.2
    unfold In64 at hfl64
    by_cases hmI : m < kk
    · have hmI2 : (m : Int) + 1 ≤ kk := by omega
      have hel := els_cell hcs.row hi
      have hAt : Calls Try.prog 25 #[Ptr D.bl, Ptr (D.E i)] wr fun e w' => e = .returned (Ptr wr.heap.size) ∧ Att w' (D.put i r) wr.heap.size i false ∧ Below wr.heap.size wr w' := ZZAttempt_lim hcs.lim i
      have HC : Hid _ := hcs
      have HRok : Hid _ := hrok
      clear hcs HCS hrok
      go_wp2_with fail
      refine hAt.mono ?_
      rintro e w4 ⟨rfl, hA4, hb4⟩
      clear hAt hel
      have hm1 : (m : Int) < (R i).fl := by omega
      have hCl := Close_lim (HC.out.lim.below hb4) HC.out.dnow.2 hA4 (ordM_mem hi hm1)
      rw [show (D.put i r).now = now from HC.out.dnow.1, put_at] at hCl
      go_wp2_with fail
      refine hCl.mono ?_
      rintro e w5 ⟨rfl, hL5, -, hF5⟩
      have hcs5 := HC.out.step hi HRok.out hm1 hb4 hL5 hF5
      have e0' := cell_later hcs5.bel e0
      have e3' := cell_later hcs5.bel e3
      clear hCl hA4 hb4 hL5 hF5 HC
      have HC : Hid _ := hcs5
      clear hcs5
      have HKEY : Hid _ := HC.out.key
      clear e0 e1 e2 e3 hfl
      by_cases hf0 : (R i).f = 0
      · by_cases hl0 : (R i).fl - (m + 1) = 0
        · have HIN : Hid (¬ i ∈ ordM (R i) n i (m + 1)) := by
            show ¬ i ∈ ordM (R i) n i (m + 1)
            unfold ordM
            rw [if_neg (Nat.succ_ne_zero m), if_pos ⟨hf0, by omega⟩]
            exact butI_not n i
          have hHK : Calls Try.prog 35 #[Ptr D.bl, kv i] w5 fun e w' => e = .returned (.bool false) ∧ Below w5.heap.size w5 w' := by
            have := ZZHasKey_lim HC.out.lim (i := i) (by omega)
            rw [decide_eq_false HIN.out] at this
            exact this
          go_wp2_with (first | (go_at_call 35; refine hHK.mono ?_; rintro e w6 ⟨rfl, hb6⟩; have hel6 := els_cell (HC.out.below hb6).row hi)
                             | (refine wpList_load_mid (by rfl) 49 (.tmp 11) (by rfl) kb 0 (by rfl) (kl i) _ HKEY.out Try.underlying49 rfl (by rw [kl_length]; exact size49) ?_))
          go_roundw
          case rel => exact ⟨m + 1, _, by omega, by go_num, HC.out.below hb6⟩
          case measure => simp [intOf]; omega
        · have HIN : Hid (i ∈ ordM (R i) n i (m + 1)) := ordM_mem hi (by omega)
          have hl0b : ((R i).fl - (m + 1) != 0) = true := by simpa using hl0
          have hHK : Calls Try.prog 35 #[Ptr D.bl, kv i] w5 fun e w' => e = .returned (.bool true) ∧ Below w5.heap.size w5 w' := by
            have := ZZHasKey_lim HC.out.lim (i := i) (by omega)
            rw [decide_eq_true HIN.out] at this
            exact this
          have hIF : Hid (∀ w6, Below w5.heap.size w5 w6 → Calls Try.prog 36 #[Ptr (D.E i)] w6 fun e w' => e = .returned (.int .i64 ((R i).fl - (m + 1))) ∧ w' = w6) := by
            intro w6 hb6
            have hc := HC.out.below hb6
            have := ZZInFlight_lim hc.lim (i := i) (by show i < D.n; rw [hc.dn]; exact hi)
            rw [put_at, hc.rfl] at this
            exact this
          go_wp2_with (first | (go_at_call 35; refine hHK.mono ?_; rintro e w6 ⟨rfl, hb6⟩; have hel6 := els_cell (HC.out.below hb6).row hi)
                             | (refine wpList_load_mid (by rfl) 49 (.tmp 11) (by rfl) kb 0 (by rfl) (kl i) _ HKEY.out Try.underlying49 rfl (by rw [kl_length]; exact size49) ?_)
                             | (go_at_call 36; refine (hIF.out _ hb6).mono ?_; rintro e w' ⟨rfl, rfl⟩))
          go_roundw
          case rel => exact ⟨m + 1, _, by omega, by go_num, HC.out.below hb6⟩
          case measure => simp [intOf]; omega
      · have HIN : Hid (i ∈ ordM (R i) n i (m + 1)) := by
          show i ∈ ordM (R i) n i (m + 1)
          unfold ordM
          rw [if_neg (Nat.succ_ne_zero m), if_neg (fun e => hf0 e.1)]
          simp
        have hHK : Calls Try.prog 35 #[Ptr D.bl, kv i] w5 fun e w' => e = .returned (.bool true) ∧ Below w5.heap.size w5 w' := by
          have := ZZHasKey_lim HC.out.lim (i := i) (by omega)
          rw [decide_eq_true HIN.out] at this
          exact this
        have hIF : Hid (∀ w6, Below w5.heap.size w5 w6 → Calls Try.prog 36 #[Ptr (D.E i)] w6 fun e w' => e = .returned (.int .i64 ((R i).fl - (m + 1))) ∧ w' = w6) := by
          intro w6 hb6
          have hc := HC.out.below hb6
          have := ZZInFlight_lim hc.lim (i := i) (by show i < D.n; rw [hc.dn]; exact hi)
          rw [put_at, hc.rfl] at this
          exact this
        go_wp2_with (first | (go_at_call 35; refine hHK.mono ?_; rintro e w6 ⟨rfl, hb6⟩; have hel6 := els_cell (HC.out.below hb6).row hi)
                           | (refine wpList_load_mid (by rfl) 49 (.tmp 11) (by rfl) kb 0 (by rfl) (kl i) _ HKEY.out Try.underlying49 rfl (by rw [kl_length]; exact size49) ?_)
                           | (go_at_call 36; refine (hIF.out _ hb6).mono ?_; rintro e w' ⟨rfl, rfl⟩))
        go_roundw
        case rel => exact ⟨m + 1, _, by omega, by go_num, HC.out.below hb6⟩
        case measure => simp [intOf]; omega
    · obtain rfl : m = kk := by omega
      have hq : wr.heap.size = wr.heap.size := rfl
      have hCp := copy_any wr (some ⟨b, off, none⟩) n c0 R hn1 (EsV.later (fun _ => ⟨b, off, rfl, HES.out⟩) hcs.bel)
      have e0' := cell_later hcs.bel e0
      have e3' := cell_later hcs.bel e3
      have HC : Hid _ := hcs
      have hbr : b < wr.heap.size := Nat.lt_of_lt_of_le hbq hcs.bel.size
      clear hcs HCS hrok
      clear e0 e1 e2 e3
      go_wp2_with fail
      refine hCp.mono ?_
      rintro e w4 ⟨rfl, hE4, hb4⟩
      clear hCp
      have hId := identity_any w4 n hn1
      go_wp2_with fail
      refine hId.mono ?_
      rintro e w5 ⟨rfl, hI5, hb5⟩
      clear hId
      have hE5 := hE4.later hb5
      have hb45 : Below wr.heap.size wr w5 := hb4.trans (hb5.mono hb4.size)
      replace e0' := cell_later hb45 e0'
      replace e3' := cell_later hb45 e3'
      obtain ⟨d0, d1, d2, d3⟩ := hE5.c hi
      have f0 := hE5.fz (i * 4)
      have f1 := hE5.fz (i * 4 + 1)
      have f2 := hE5.fz (i * 4 + 2)
      have f3 := hE5.fz (i * 4 + 3)
      have HE2 : Hid _ := hE5
      have HB2 : Hid (Below wr.heap.size wr w5) := hb45
      have HI5 : Hid _ := hI5
      clear hE4 hE5 hb45 hb4 hb5 hI5 hq
      generalize hgw : w4.heap.size = gi at *
      have hqb : ¬ wr.heap.size = b := by omega
      have hbq' : ¬ b = wr.heap.size := by omega
      generalize hq : wr.heap.size = q at *
      by_cases hm0 : m = 0
      · subst hm0
        clear e0' e3' d0 d1 d2 d3 f0 f1 f2 f3
        have HOM : Hid (ordM (R i) n i 0 = List.range n) := if_pos rfl
        have hl : n = (ordM (R i) n i 0).length := by rw [HOM.out]; simp
        have hbx : Below wr.heap.size wr w5 := by rw [hq]; exact HB2.out
        have hX : ∀ j ∈ ordM (R i) n i 0, j < n ∧ R j = (D.put i r).fd j := by
          intro j hj
          by_cases e : j = i
          · subst e
            refine ⟨hi, ?_⟩
            rw [put_at]
            have hc := HC.out
            have hla := hc.rla hj
            rw [if_pos rfl] at hla
            have h1 := hc.rf
            have h2 := hc.rlf
            have h3 := hc.rfl
            generalize R j = rr at *
            cases r
            cases rr
            simp only [Rec.mk.injEq]
            exact ⟨h1.symm, h2.symm, hla.symm, by simpa using h3.symm⟩
          · have hjn : j < n := by rw [HOM.out] at hj; simpa using hj
            exact ⟨hjn, by rw [put_far _ _ e, HC.out.dfd j hjn e]⟩
        have hI := HI5.out
        rw [← HOM.out] at hI
        have hM := matches_any (HC.out.below hbx).lim (some ⟨gi, 0, none⟩) (some ⟨q, 0, none⟩) n n n _ (RowI.want (g := gi) (lim := n) hI) HE2.out.esV hn1 hX
        rw [← hl] at hM
        have HBF : Hid (Below w1.heap.size w1 w5) := (HC.out.below hbx).bel
        clear hl hX hbx hI HI5 HE2 HB2 HOM HC
        go_wp2_with (first | (go_at_call 16; refine hM.mono ?_; rintro e W9 ⟨rfl, hb9⟩) | fail)
        go_ret
        exact ⟨rfl, HBF.out.trans (hb9.mono HBF.out.size)⟩
      have hm0' : (0 : Int) < m := by omega
      by_cases hid : (R i).f = 0 ∧ (R i).fl = m
      · have HOM : Hid (ordM (R i) n i m = butI n i) := by
          show ordM (R i) n i m = butI n i
          unfold ordM; rw [if_neg hm0, if_pos hid]
        have HE3 : Hid (EsB (w5.setCell ⟨q, i * 4 + 3, none⟩ (.int .i64 ((R i).fl - m))) q n (updR R i ⟨(R i).f, (R i).lf, (R i).la, (R i).fl - m⟩)) :=
          HE2.out.set hi (c := 3) (by omega) (fun j e => updR_far _ _ e) (by simp [updR_at]) (by simp [updR_at]) (by simp [updR_at]) (by simp [updR_at])
        obtain ⟨hf0, hl0⟩ := hid
        have hnid := hl0
        rw [hl0] at HE3 e3'
        have hmm : (m : Int) - m = 0 := by omega
        rw [hmm] at HE3
        go_wp2_with fail
        clear e0' e3' d0 d1 d2 d3 f0 f1 f2 f3
        generalize hW4 : World.setCell _ _ _ = W4
        have HE4 : Hid (EsB W4 q n (updR R i ⟨(R i).f, (R i).lf, (R i).la, 0⟩)) := by rw [← hW4]; exact HE3.out
        have HB4 : Hid (Below q wr W4) := by
          rw [← hW4]
          exact HB2.out.setCell (Nat.le_refl _) _
        clear hW4 HE2 HE3 HB2 HI5
        refine (without_any W4 n i hn1 (by omega)).mono ?_
        rintro e W5 ⟨rfl, hrow, hb5⟩
        rw [← HOM.out] at hrow
        have hl : (butI n i).length = (ordM (R i) n i m).length := by rw [← HOM.out]
        have hbx : Below wr.heap.size wr W5 := by rw [hq]; exact HB4.out.trans (hb5.mono (hq ▸ HB4.out.size))
        have hX : ∀ j ∈ ordM (R i) n i m, j < n ∧ updR R i ⟨(R i).f, (R i).lf, (R i).la, 0⟩ j = (D.put i r).fd j := by
          intro j hj
          rw [HOM.out] at hj
          obtain ⟨hjn, e⟩ := butI_mem hj
          exact ⟨hjn, by rw [updR_far _ _ e, put_far _ _ e, HC.out.dfd j hjn e]⟩
        have hM := matches_any (HC.out.below hbx).lim (some ⟨W4.heap.size, 0, none⟩) (some ⟨q, 0, none⟩) n n n _ hrow.want (HE4.out.later hb5).esV hn1 hX
        rw [← hl] at hM
        have HBF : Hid (Below w1.heap.size w1 W5) := (HC.out.below hbx).bel
        clear hl hX hbx hrow hb5 HE4 HB4 HOM HC
        generalize (butI n i).length = lw at *
        generalize W4.heap.size = gw at *
        go_wp2_with (first | (go_at_call 16; refine hM.mono ?_; rintro e W9 ⟨rfl, hb9⟩) | fail)
        go_ret
        exact ⟨rfl, HBF.out.trans (hb9.mono HBF.out.size)⟩
      have hnid := hid
      have HOM : Hid (ordM (R i) n i m = butI n i ++ [i]) := by
        show ordM (R i) n i m = butI n i ++ [i]
        unfold ordM; rw [if_neg hm0, if_neg hid]
      have HE3 : Hid (EsB ((w5.setCell ⟨q, i * 4 + 3, none⟩ (.int .i64 ((R i).fl - m))).setCell ⟨q, i * 4 + 2, none⟩ (.int .i64 now)) q n (updR R i ⟨(R i).f, (R i).lf, now, (R i).fl - m⟩)) := by
        have s := HE2.out.set (R' := updR R i ⟨(R i).f, (R i).lf, (R i).la, (R i).fl - m⟩) (v := .int .i64 ((R i).fl - m)) hi (c := 3) (by omega) (fun j e => updR_far _ _ e) (by simp [updR_at]) (by simp [updR_at]) (by simp [updR_at]) (by simp [updR_at])
        exact s.set (R' := updR R i ⟨(R i).f, (R i).lf, now, (R i).fl - m⟩) (v := .int .i64 now) hi (c := 2) (by omega) (fun j e => by rw [updR_far _ _ e, updR_far _ _ e]) (by simp [updR_at]) (by simp [updR_at]) (by simp [updR_at]) (by simp [updR_at])
      by_cases hf0 : (R i).f = 0
      · have hl0 : ¬ (R i).fl = m := fun e => hid ⟨hf0, e⟩
        clear hid
        go_wp2_with fail
        clear e0' e3' d0 d1 d2 d3 f0 f1 f2 f3 hf0 hnid
        generalize hW4 : World.setCell _ _ _ = W4
        have HE4 : Hid (EsB W4 q n (updR R i ⟨(R i).f, (R i).lf, now, (R i).fl - m⟩)) := by rw [← hW4]; exact HE3.out
        have HB4 : Hid (Below q wr W4) := by
          rw [← hW4]
          exact (HB2.out.setCell (Nat.le_refl _) _).setCell (Nat.le_refl _) _
        clear hW4 HE2 HE3 HB2 HI5
        refine (moved_any W4 n i hn1 hi).mono ?_
        rintro e W5 ⟨rfl, hrow, hb5⟩
        rw [← HOM.out] at hrow
        have hl : (butI n i ++ [i]).length = (ordM (R i) n i m).length := by rw [← HOM.out]
        have hbx : Below wr.heap.size wr W5 := by rw [hq]; exact HB4.out.trans (hb5.mono (hq ▸ HB4.out.size))
        have hX : ∀ j ∈ ordM (R i) n i m, j < n ∧ updR R i ⟨(R i).f, (R i).lf, now, (R i).fl - m⟩ j = (D.put i r).fd j := by
          intro j hj
          by_cases e : j = i
          · subst e
            refine ⟨hi, ?_⟩
            rw [updR_at, put_at]
            have hc := HC.out
            have hla := hc.rla hj
            rw [if_neg (by omega)] at hla
            cases r
            simp only [Rec.mk.injEq]
            exact ⟨hc.rf.symm, hc.rlf.symm, hla.symm, hc.rfl.symm⟩
          · have hj' : j ∈ butI n i ++ [i] := by rw [← HOM.out]; exact hj
            have hjn : j < n := by
              rcases List.mem_append.1 hj' with h | h
              · exact (butI_mem h).1
              · simp at h; exact absurd h e
            exact ⟨hjn, by rw [updR_far _ _ e, put_far _ _ e, HC.out.dfd j hjn e]⟩
        have hM := matches_any (HC.out.below hbx).lim (some ⟨W4.heap.size, 0, none⟩) (some ⟨q, 0, none⟩) n n n _ hrow.want (HE4.out.later hb5).esV hn1 hX
        rw [← hl] at hM
        have HBF : Hid (Below w1.heap.size w1 W5) := (HC.out.below hbx).bel
        clear hl hX hbx hrow hb5 HE4 HB4 HOM HC
        generalize (butI n i ++ [i]).length = lw at *
        generalize W4.heap.size = gw at *
        go_wp2_with (first | (go_at_call 16; refine hM.mono ?_; rintro e W9 ⟨rfl, hb9⟩) | fail)
        go_ret
        exact ⟨rfl, HBF.out.trans (hb9.mono HBF.out.size)⟩
      · clear hid
        go_wp2_with fail
        clear e0' e3' d0 d1 d2 d3 f0 f1 f2 f3 hf0 hnid
        generalize hW4 : World.setCell _ _ _ = W4
        have HE4 : Hid (EsB W4 q n (updR R i ⟨(R i).f, (R i).lf, now, (R i).fl - m⟩)) := by rw [← hW4]; exact HE3.out
        have HB4 : Hid (Below q wr W4) := by
          rw [← hW4]
          exact (HB2.out.setCell (Nat.le_refl _) _).setCell (Nat.le_refl _) _
        clear hW4 HE2 HE3 HB2 HI5
        refine (moved_any W4 n i hn1 hi).mono ?_
        rintro e W5 ⟨rfl, hrow, hb5⟩
        rw [← HOM.out] at hrow
        have hl : (butI n i ++ [i]).length = (ordM (R i) n i m).length := by rw [← HOM.out]
        have hbx : Below wr.heap.size wr W5 := by rw [hq]; exact HB4.out.trans (hb5.mono (hq ▸ HB4.out.size))
        have hX : ∀ j ∈ ordM (R i) n i m, j < n ∧ updR R i ⟨(R i).f, (R i).lf, now, (R i).fl - m⟩ j = (D.put i r).fd j := by
          intro j hj
          by_cases e : j = i
          · subst e
            refine ⟨hi, ?_⟩
            rw [updR_at, put_at]
            have hc := HC.out
            have hla := hc.rla hj
            rw [if_neg (by omega)] at hla
            cases r
            simp only [Rec.mk.injEq]
            exact ⟨hc.rf.symm, hc.rlf.symm, hla.symm, hc.rfl.symm⟩
          · have hj' : j ∈ butI n i ++ [i] := by rw [← HOM.out]; exact hj
            have hjn : j < n := by
              rcases List.mem_append.1 hj' with h | h
              · exact (butI_mem h).1
              · simp at h; exact absurd h e
            exact ⟨hjn, by rw [updR_far _ _ e, put_far _ _ e, HC.out.dfd j hjn e]⟩
        have hM := matches_any (HC.out.below hbx).lim (some ⟨W4.heap.size, 0, none⟩) (some ⟨q, 0, none⟩) n n n _ hrow.want (HE4.out.later hb5).esV hn1 hX
        rw [← hl] at hM
        have HBF : Hid (Below w1.heap.size w1 W5) := (HC.out.below hbx).bel
        clear hl hX hbx hrow hb5 HE4 HB4 HOM HC
        generalize (butI n i ++ [i]).length = lw at *
        generalize W4.heap.size = gw at *
        go_wp2_with (first | (go_at_call 16; refine hM.mono ?_; rintro e W9 ⟨rfl, hb9⟩) | fail)
        go_ret
        exact ⟨rfl, HBF.out.trans (hb9.mono HBF.out.size)⟩
end Go.Proofs.Qxb6612554a
