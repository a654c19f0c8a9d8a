import Derived.Test.Qxb6612554aCopy
namespace Go.Proofs.Qxb6612554a
open Go.ChangeShapes Go.WideShapes Go.ChangeAt Go.RowKit
set_option linter.unusedVariables false

/-- One record turned. -/
def updR (R : Nat → Rec) (i : Nat) (r : Rec) : Nat → Rec := fun j => if j = i then r else R j
theorem updR_at (R : Nat → Rec) (i : Nat) (r : Rec) : updR R i r i = r := by simp [updR]
theorem updR_far (R : Nat → Rec) {i j : Nat} (r : Rec) (h : j ≠ i) : updR R i r j = R j := by simp [updR, h]
theorem EsB.set4 {w : World} {g n i : Nat} {R : Nat → Rec} (h : EsB w g n R) (hi : i < n) (r : Rec) :
    EsB ((((w.setCell ⟨g, i * 4, none⟩ (.int .i64 r.f)).setCell ⟨g, i * 4 + 1, none⟩ (.int .i64 r.lf)).setCell ⟨g, i * 4 + 2, none⟩ (.int .i64 r.la)).setCell ⟨g, i * 4 + 3, none⟩ (.int .i64 r.fl)) g n (updR R i r) := by
  have s0 := h.set (R' := updR R i ⟨r.f, (R i).lf, (R i).la, (R i).fl⟩) hi (c := 0) (v := .int .i64 r.f) (by omega) (fun j e => updR_far _ _ e) (by simp [updR_at]) (by simp [updR_at]) (by simp [updR_at]) (by simp [updR_at])
  have s1 := s0.set (R' := updR R i ⟨r.f, r.lf, (R i).la, (R i).fl⟩) hi (c := 1) (v := .int .i64 r.lf) (by omega) (fun j e => by rw [updR_far _ _ e, updR_far _ _ e]) (by simp [updR_at]) (by simp [updR_at]) (by simp [updR_at]) (by simp [updR_at])
  have s2 := s1.set (R' := updR R i ⟨r.f, r.lf, r.la, (R i).fl⟩) hi (c := 2) (v := .int .i64 r.la) (by omega) (fun j e => by rw [updR_far _ _ e, updR_far _ _ e]) (by simp [updR_at]) (by simp [updR_at]) (by simp [updR_at]) (by simp [updR_at])
  exact s2.set (R' := updR R i r) hi (c := 3) (v := .int .i64 r.fl) (by omega) (fun j e => by rw [updR_far _ _ e, updR_far _ _ e]) (by simp [updR_at]) (by simp [updR_at]) (by simp [updR_at]) (by simp [updR_at])

set_option maxRecDepth 20000 in
set_option maxHeartbeats 6400000 in
theorem failed_law (w : World) (a0 : Option Addr) (n c0 : Nat) (z now : Int) (R : Nat → Rec) (hn : n ≤ maxLen) (hnow : In64 now) (h0 : EsV w a0 n R) (hok : ∀ i, i < n → (R i).ok) :
    Calls Try.prog 7 #[.slice a0 n c0, .int .i64 z, .int .i64 now] w fun e w' => e = .returned (.bool true) ∧ Below w.heap.size w w' := by
  have hZ := zzBytes22 w a0 n c0 z now hn
  unfold maxLen at hn
  go_enter Try.func7, Try.ntmps7
  go_wp2_with fail
  refine hZ.mono ?_
  rintro e w' ⟨he, rfl⟩
  clear hZ
  rcases he with rfl | rfl
  rotate_left
  · go_wp2
    go_ret
    exact ⟨rfl, Below.refl _ _⟩
  by_cases hn1 : n ≤ 16384
  rotate_left
  · go_wp2
    go_ret
    exact ⟨rfl, Below.refl _ _⟩
  by_cases hz0 : z < 0
  · go_wp2
    go_ret
    exact ⟨rfl, Below.refl _ _⟩
  by_cases hz1 : z < n
  rotate_left
  · go_wp2
    go_ret
    exact ⟨rfl, Below.refl _ _⟩
  obtain ⟨i, rfl⟩ := Int.eq_ofNat_of_zero_le (show 0 ≤ z by omega)
  have hi : i < n := by omega
  have hRe := reachable_any w' a0 n c0 R hn1 h0
  go_wp2_with fail
  refine hRe.mono ?_
  clear hRe
  intro e w1 hpost
  rcases hpost with ⟨rfl, hreach, rfl⟩ | ⟨rfl, rfl⟩
  rotate_left
  · go_wp2
    go_ret
    exact ⟨rfl, Below.refl _ _⟩
  obtain ⟨b, off, rfl, hes⟩ := h0 (by omega)
  obtain ⟨e0, e1, e2, e3⟩ := hes i hi
  by_cases hfl : (R i).fl < 1
  · go_wp2
    go_ret
    exact ⟨rfl, Below.refl _ _⟩
  have hCp := copy_any w1 (some ⟨b, off, none⟩) n c0 R hn1 (fun _ => ⟨b, off, rfl, hes⟩)
  have hbq : b < w1.heap.size := by
    by_cases h : b < w1.heap.size
    · exact h
    · exfalso
      have : w1.heap[b]? = none := by simp; omega
      simp [World.cell?, this] at e0
  have HES : Hid (EsAt w1 b off n R) := hes
  have HOK : Hid _ := hok
  have HRR : Hid _ := hreach
  clear h0 hes hok hreach
  go_wp2_with fail
  refine hCp.mono ?_
  rintro e w2 ⟨rfl, hE2, hb2⟩
  clear hCp
  have e0' := cell_later hb2 e0
  have e3' := cell_later hb2 e3
  obtain ⟨d0, d1, d2, d3⟩ := hE2.c hi
  have f0 := hE2.fz (i * 4)
  have f1 := hE2.fz (i * 4 + 1)
  have f2 := hE2.fz (i * 4 + 2)
  have f3 := hE2.fz (i * 4 + 3)
  have HE2 : Hid _ := hE2
  have HB2 : Hid (Below w1.heap.size w1 w2) := hb2
  clear hE2 hb2 e0 e1 e2 e3
  have hqb : ¬ w1.heap.size = b := by omega
  have hbq' : ¬ b = w1.heap.size := by omega
  generalize hq : w1.heap.size = q at *
  go_wp2_with fail
  clear e0' e3' d0 d1 d2 d3 f0 f1 f2 f3
  generalize hW4 : World.setCell _ _ _ = W4
  have HE4 : Hid (EsB W4 q n (updR R i (failedRec (R i) now))) := by rw [← hW4]; exact HE2.out.set4 hi (failedRec (R i) now)
  have HB4 : Hid (Below w1.heap.size w1 W4) := by
    rw [← hW4, hq]
    exact (((HB2.out.setCell (Nat.le_refl _) _).setCell (Nat.le_refl _) _).setCell (Nat.le_refl _) _).setCell (Nat.le_refl _) _
  clear hW4 HE2 HB2
  refine (moved_any W4 n i hn1 hi).mono ?_
  rintro e W5 ⟨rfl, hrow, hb5⟩
  have HRow5 : Hid (RowI W4.heap.size n (butI n i ++ [i]) W5) := hrow
  have HE5 : Hid (EsB W5 q n (updR R i (failedRec (R i) now))) := HE4.out.later hb5
  have HB5 : Hid (Below w1.heap.size w1 W5) := HB4.out.trans (hb5.mono HB4.out.size)
  clear hrow hb5 HE4 HB4
  generalize W4.heap.size = gw at *
  have hBu := build_any W5 (some ⟨b, off, none⟩) n c0 R now hn1 hnow (EsV.later (fun _ => ⟨b, off, rfl, HES.out⟩) HB5.out) HOK.out
  generalize hlw : (butI n i ++ [i]).length = lw at *
  have HLW : Hid ((butI n i ++ [i]).length = lw) := hlw
  clear hlw
  go_wp2_with fail
  refine hBu.mono ?_
  rintro e W6 ⟨D, g, rfl, hbs⟩
  clear hBu
  have hel := els_cell hbs.row hi
  have hAt := ZZAttempt_lim hbs.lim i
  have HBS : Hid _ := hbs
  clear hbs
  go_wp2_with fail
  refine hAt.mono ?_
  rintro e W7 ⟨rfl, hA7, hb7⟩
  clear hAt hel
  have hmu := HBS.out.dnow.2
  have hdi : D.fd i = R i := HBS.out.dfd i hi
  have hFa := Failed_lim (HBS.out.lim.below hb7) hmu hA7 (i := i) (by simpa using hi) (by rw [hdi]; exact (HRR.out i hi).1)
  rw [hdi, HBS.out.dnow.1] at hFa
  have HB7 : Hid _ := hb7
  clear hA7 hb7
  generalize hba : W6.heap.size = ba at *
  go_wp2_with fail
  refine hFa.mono ?_
  rintro e W8 ⟨rfl, hL8, hA8, hF8⟩
  clear hFa
  have hb58 : Below W5.heap.size W5 W8 := by
    have h1 := HBS.out.bel
    have h2 : Below W5.heap.size W6 W7 := by have := HB7.out; rw [← hba] at this; exact this.mono h1.size
    have h3 : Below W5.heap.size W7 W8 := end_below ((HBS.out.lim).below (by have := HB7.out; rw [← hba] at this; exact this)) HBS.out.dB (by rw [← hba]; exact h1.size) hF8
    exact (h1.trans h2).trans h3
  have HFD : Hid (∀ j, j < n → D.fd j = R j) := HBS.out.dfd
  have hX : ∀ j ∈ (List.range n).erase i ++ [i], j < n ∧ updR R i (failedRec (R i) now) j = (D.put i (failedRec (R i) now)).fd j := by
    intro j hj
    by_cases e : j = i
    · subst e; exact ⟨hi, by rw [updR_at, put_at]⟩
    · have hj' : j ∈ butI n i := by
        rcases List.mem_append.1 hj with h | h
        · exact h
        · simp at h; exact absurd h e
      have := butI_mem hj'
      exact ⟨this.1, by rw [updR_far _ _ e, put_far _ _ e, HFD.out j this.1]⟩
  have hM1 := matches_any hL8 (some ⟨gw, 0, none⟩) (some ⟨q, 0, none⟩) n n n (updR R i (failedRec (R i) now)) (RowI.later HRow5.out hb58).want (HE5.out.later hb58).esV hn1 hX
  rw [show ((List.range n).erase i ++ [i]).length = lw from HLW.out] at hM1
  have hEn := ZZEnded_lim hA8
  have HL8 : Hid _ := hL8
  have HA8 : Hid _ := hA8
  have HX : Hid _ := hX
  have HRow8 : Hid (RowI gw n (butI n i ++ [i]) W8) := RowI.later HRow5.out hb58
  have HE8 : Hid (EsB W8 q n (updR R i (failedRec (R i) now))) := HE5.out.later hb58
  have HB8 : Hid (Below w1.heap.size w1 W8) := HB5.out.trans (hb58.mono HB5.out.size)
  clear hL8 hA8 hF8 hb58 hX HRow5 HE5 HB5 HBS HB7 hmu hdi hba
  go_wp2_with (first | (go_at_call 27; refine hEn.mono ?_; rintro e w' ⟨rfl, rfl⟩) | (go_at_call 16; refine hM1.mono ?_; rintro e W9 ⟨rfl, hb9⟩) | fail)
  have hA9 := HA8.out.fr (Fr.of_below hb9 _ (fun k hk hle => by omega))
  have hL9 := HL8.out.below hb9
  have hM2 := matches_any hL9 (some ⟨gw, 0, none⟩) (some ⟨q, 0, none⟩) n n n (updR R i (failedRec (R i) now)) (RowI.later HRow8.out hb9).want (HE8.out.later hb9).esV hn1 HX.out
  rw [show ((List.range n).erase i ++ [i]).length = lw from HLW.out] at hM2
  have HB9 : Hid (Below w1.heap.size w1 W9) := HB8.out.trans (hb9.mono HB8.out.size)
  have hFd := Failed_done hA9
  have hCd := Close_done hA9
  have hEn2 := ZZEnded_lim hA9
  clear hM1 hEn hb9 hA9 hL9
  go_wp2_with (first | (go_at_call 26; refine hFd.mono ?_; rintro e w' ⟨rfl, rfl⟩) | (go_at_call 28; refine hCd.mono ?_; rintro e w' ⟨rfl, rfl⟩) | (go_at_call 27; refine hEn2.mono ?_; rintro e w' ⟨rfl, rfl⟩) | (go_at_call 16; refine hM2.mono ?_; rintro e W10 ⟨rfl, hb10⟩) | fail)
  go_ret
  refine ⟨rfl, ?_⟩
  exact HB9.out.trans (hb10.mono HB9.out.size)
end Go.Proofs.Qxb6612554a
