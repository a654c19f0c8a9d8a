import Derived.Test.Qxb6001222aSame
namespace Go.Proofs.Qxb6001222a
open Go.ChangeShapes Go.WideShapes Go.ChangeAt Go.RowKit
set_option linter.unusedVariables false

theorem same_not {w : World} {a b : Option Addr} {n m : Nat} (ca cb : Nat) {La Lb : List Int} (hla : La.length = n) (hlb : Lb.length = m) (hn : n ≤ 1000000) (hm : m ≤ 1000000) (ha : SV w a La) (hb : SV w b Lb) (hne : La ≠ Lb) :
    Calls Try.prog 13 #[.slice a n ca, .slice b m cb] w fun e w' => e = .returned (.bool false) ∧ Below w.heap.size w w' := by
  have := ZZSameInts_any w a b ca cb La Lb (by omega) (by omega) ha hb
  rw [decide_eq_false hne, hla, hlb] at this
  exact this
theorem moved_ne {u d : Int} (hu : -9223372036854775808 ≤ u ∧ u ≤ 9223372036854775807) (hd : -9223372036854775808 ≤ d ∧ d ≤ 9223372036854775807) (h0 : d ≠ 0) : wrap64 (u + d) ≠ u := by
  unfold wrap64
  omega
theorem set_ne {L : List Int} {i : Nat} {u v : Int} (hi : L[i]? = some u) (hne : v ≠ u) : L.set i v ≠ L := by
  intro e
  have hl : i < L.length := (List.getElem?_eq_some_iff.1 hi).1
  have : (L.set i v)[i]? = some v := by simp [hl]
  rw [e, hi] at this
  exact hne (Option.some.inj this).symm

set_option maxRecDepth 20000 in
set_option maxHeartbeats 3200000 in
theorem refuses_law (w : World) (a0 : Option Addr) (n c0 : Nat) (L : List Int) (hL : L.length = n) (hn : n ≤ maxLen) (ha : SV w a0 L) (hnil : a0 = none → n = 0 ∧ c0 = 0)
    (hw : ∀ v ∈ L, -9223372036854775808 ≤ v ∧ v ≤ 9223372036854775807) (i d x : Int) (hd : -9223372036854775808 ≤ d ∧ d ≤ 9223372036854775807) :
    Calls Try.prog 5 #[.slice a0 n c0, .int .i64 i, .int .i64 d, .int .i64 x] w fun e w' => e = .returned (.bool true) ∧ Below w.heap.size w w' := by
  have hZ := zzBytes15 w a0 n c0 i d x hn
  unfold maxLen at hn
  go_enter Try.func5, Try.ntmps5
  go_wp2_with fail
  refine hZ.mono ?_
  rintro e w' ⟨he, rfl⟩
  clear hZ
  rcases he with rfl | rfl
  rotate_left
  · go_wp2
    go_ret
    exact ⟨rfl, Below.refl _ _⟩
  by_cases hn1 : n ≤ 131072
  rotate_left
  · go_wp2
    go_ret
    exact ⟨rfl, Below.refl _ _⟩
  have hC := clone_any w' a0 n c0 L hL (by omega) ha hnil
  have HW : Hid _ := hw
  clear ha hnil hw
  go_wp2_with fail
  refine hC.mono ?_
  rintro e w1 ⟨a1, rfl, hsv, hform, hb1⟩
  clear hC
  have hmk := make22 (n + 1) (by omega) w1
  rw [show ((n + 1 : Nat) : Int) = (n : Int) + 1 from by omega] at hmk
  have HR0 : Hid (RowB (w1.alloc (.cells (Array.replicate (n + 1) (.int .i64 0)) 3)) w1.heap.size (fill L 0 (n + 1))) := by
    show RowB _ _ _
    rw [fill_zero]
    unfold RowB
    rw [heap_alloc_new w1 _]
    simp
  have HB0 : Hid (Below w1.heap.size w1 (w1.alloc (.cells (Array.replicate (n + 1) (.int .i64 0)) 3))) := (Below.refl _ _).alloc (Nat.le_refl _) _
  have HSV : Hid _ := hsv
  have HF : Hid _ := hform
  have HB1 : Hid _ := hb1
  clear hsv hform hb1
  go_wp2
  clear hmk
  generalize hg : w1.heap.size = g at *
  go_loopw [10] (fun t wr => ∃ k : Nat, k ≤ n ∧ t = .int .i64 k ∧ RowB wr g (fill L k (n + 1)) ∧ Below g w1 wr) (fun t _ => n - (intOf t).toNat)
  case atStart => exact ⟨0, Nat.zero_le _, rfl, HR0.out, HB0.out⟩
  case round =>
    obtain ⟨k, hk, rfl, hrow, hbx⟩ := hrel
    have HRow : Hid _ := hrow
    have HBX : Hid (Below g w1 wr) := hbx
    by_cases hlt : k < n
    · have hne : L ≠ [] := by rintro rfl; simp at hL; omega
      obtain ⟨x', rfl, hxc⟩ := HSV.out hne
      have e1 : L[k]? = some (L[k]'(by omega)) := List.getElem?_eq_getElem (by omega)
      generalize L[k]'(by omega) = u at e1
      have c1 : wr.cell? (x'.add k) = some (.int .i64 u) := cell_later (by rw [hg]; exact hbx) (hxc k u e1)
      have c2 := hrow.cell (fill_get (L := L) (k := k) (m := n + 1) (by omega) (by omega))
      have f2 := hrow.fz k
      have hkI : (k : Int) < n := by omega
      have hkn : (k : Int) < (n : Int) + 1 := by omega
      have HN : Hid _ := hrow.set k u
      rw [fill_step e1 (by omega)] at HN
      clear hrow hbx HR0 HB0 hxc e1 HRow
      go_wp2
      go_roundw
      case rel => exact ⟨k + 1, by omega, by go_num, HN.out, HBX.out.setCell (Nat.le_refl _) _⟩
      case measure => simp [intOf]; omega
    · obtain rfl : k = n := by omega
      have c2 := hrow.cell (fill_get (L := L) (k := k) (m := k + 1) (by omega) (by omega))
      have f2 := hrow.fz k
      have HN : Hid (RowB (wr.setCell ⟨g, k, none⟩ (.int .i64 x)) g (L ++ [x])) := by
        have := hrow.set k x
        have e : (fill L k (k + 1)).set k x = L ++ [x] := by
          unfold fill
          rw [List.set_append_right _ _ (by simp; omega)]
          simp [hL]
          rw [List.take_of_length_le (by omega)]
        rw [e] at this
        exact this
      have HB2 : Hid (Below g w1 (wr.setCell ⟨g, k, none⟩ (.int .i64 x))) := hbx.setCell (Nat.le_refl _) _
      have hkn : (k : Int) < (k : Int) + 1 := by omega
      clear hrow hbx HR0 HB0 HRow HBX
      generalize hW2 : wr.setCell ⟨g, k, none⟩ (.int .i64 x) = w2 at *
      have hS1 : SV w1 a1 L := HSV.out
      have hS2 : SV w2 a1 L := hS1.later (by rw [hg]; exact HB2.out)
      have hne : L ≠ L ++ [x] := fun e => by simpa using congrArg List.length e
      have hlen1 : (L ++ [x]).length = k + 1 := by simp [hL]
      have hC1 := same_not k (k + 1) hL hlen1 (by omega) (by omega) hS2 HN.out.sv hne
      have HB3 : Hid (Below w'.heap.size w' w2) := HB1.out.trans (HB2.out.mono (by rw [← hg]; exact HB1.out.size))
      by_cases hk0 : k = 0
      · have hkI : ¬ (0 : Int) < k := by omega
        have HK0 : Hid (k = 0) := hk0
        clear hk0
        go_wp2_with (first | (go_at_call 13; refine hC1.mono ?_; rintro e w3 ⟨rfl, hb3⟩; have hC2 := same_not (k + 1) k hlen1 hL (by omega) (by omega) (HN.out.later hb3).sv (hS2.later hb3) hne.symm) | (refine hC2.mono ?_; rintro e w4 ⟨rfl, hb4⟩))
        all_goals first
          | (go_ret
             exact ⟨rfl, (HB3.out.trans (hb3.mono HB3.out.size)).trans (hb4.mono (HB3.out.trans (hb3.mono HB3.out.size)).size)⟩)
          | (exfalso; have := HK0.out; omega)
      have hkI : (0 : Int) < k := by omega
      obtain ⟨rfl, hR1⟩ : a1 = some ⟨w'.heap.size, 0, none⟩ ∧ RowB w1 w'.heap.size L := by
        rcases HF.out with ⟨-, h⟩ | h
        · omega
        · exact h
      generalize hq : w'.heap.size = q at *
      have hLn : (L.take (k - 1)).length = k - 1 := by simp; omega
      have hneS : L ≠ L.take (k - 1) := fun e => by have := congrArg List.length e; omega
      have HX : Hid (∀ W, Below w2.heap.size w2 W → Calls Try.prog 12 #[.slice (some ⟨q, 0, none⟩) (k - 1) k] W fun e w' => ∃ a', e = .returned (.slice a' (k - 1) (k - 1)) ∧ SV w' a' (L.take (k - 1)) ∧ Below W.heap.size W w') := by
        intro W hW
        have hS := hS2.later hW
        have hS' : SV W (some ⟨q, 0, none⟩) (L.take (k - 1)) := by
          intro h
          obtain ⟨y, hy, hc⟩ := hS (by rintro rfl; simp at h)
          exact ⟨y, hy, fun j v hv => hc j v (by rw [List.getElem?_take] at hv; split at hv; · exact hv
                                                 · cases hv)⟩
        refine (clone_any W _ (k - 1) k (L.take (k - 1)) hLn (by omega) hS' (fun h => by cases h)).mono ?_
        rintro e W' ⟨a', h1, h2, h3, h4⟩
        exact ⟨a', h1, h2, h4⟩
      go_wp2_with (first | (go_at_call 13; refine hC1.mono ?_; rintro e w3 ⟨rfl, hb3⟩; have hC2 := same_not (k + 1) k hlen1 hL (by omega) (by omega) (HN.out.later hb3).sv (hS2.later hb3) hne.symm) 
                         | (go_at_call 13; refine hC2.mono ?_; rintro e w4 ⟨rfl, hb4⟩)
                         | fail)
      have hb24 : Below w2.heap.size w2 w4 := hb3.trans (hb4.mono hb3.size)
      refine (HX.out w4 hb24).mono ?_
      rintro e w5 ⟨a5, rfl, hs5, hb5⟩
      have hb25 : Below w2.heap.size w2 w5 := hb24.trans (hb5.mono hb24.size)
      have hS5 := hS2.later hb25
      have hC3 := same_not k (k - 1) hL hLn (by omega) (by omega) hS5 hs5 hneS
      clear hC1 hC2 HX hb3 hb4 hb5 hb24 c2 f2
      have HB5 : Hid (Below q w' w5) := HB3.out.trans (hb25.mono (by rw [← hq]; exact HB3.out.size))
      have HR5 : Hid (RowB w5 q L) := (hR1.later (by rw [hg]; exact HB2.out)).later hb25
      clear hb25 hR1 HB3 HF hS2 hS1 HN HB2
      by_cases hi0 : i < 0
      · go_wp2_with (first | (go_at_call 13; refine hC3.mono ?_; rintro e w6 ⟨rfl, hb6⟩; have hC4 := same_not (k - 1) k hLn hL (by omega) (by omega) (hs5.later hb6) (hS5.later hb6) hneS.symm)
                             | (go_at_call 13; refine hC4.mono ?_; rintro e w7 ⟨rfl, hb7⟩)
                             | fail)
        go_ret
        rw [hq]
        exact ⟨rfl, (HB5.out.trans (hb6.mono (by rw [← hq]; exact HB5.out.size))).trans (hb7.mono (by have := HB5.out.size; have := hb6.size; omega))⟩
      by_cases hi1 : (k : Int) ≤ i
      · go_wp2_with (first | (go_at_call 13; refine hC3.mono ?_; rintro e w6 ⟨rfl, hb6⟩; have hC4 := same_not (k - 1) k hLn hL (by omega) (by omega) (hs5.later hb6) (hS5.later hb6) hneS.symm)
                             | (go_at_call 13; refine hC4.mono ?_; rintro e w7 ⟨rfl, hb7⟩)
                             | fail)
        go_ret
        rw [hq]
        exact ⟨rfl, (HB5.out.trans (hb6.mono (by rw [← hq]; exact HB5.out.size))).trans (hb7.mono (by have := HB5.out.size; have := hb6.size; omega))⟩
      by_cases hd0 : d = 0
      · go_wp2_with (first | (go_at_call 13; refine hC3.mono ?_; rintro e w6 ⟨rfl, hb6⟩; have hC4 := same_not (k - 1) k hLn hL (by omega) (by omega) (hs5.later hb6) (hS5.later hb6) hneS.symm)
                             | (go_at_call 13; refine hC4.mono ?_; rintro e w7 ⟨rfl, hb7⟩)
                             | fail)
        go_ret
        rw [hq]
        exact ⟨rfl, (HB5.out.trans (hb6.mono (by rw [← hq]; exact HB5.out.size))).trans (hb7.mono (by have := HB5.out.size; have := hb6.size; omega))⟩
      obtain ⟨i, rfl⟩ := Int.eq_ofNat_of_zero_le (show 0 ≤ i by omega)
      have hik : i < k := by omega
      have e1 : L[i]? = some (L[i]'(by omega)) := List.getElem?_eq_getElem (by omega)
      generalize L[i]'(by omega) = u at e1
      have hu := HW.out u (List.mem_of_getElem? e1)
      have hmv := moved_ne hu hd hd0
      have HST : Hid (L.set i (wrap64 (u + d)) ≠ L) := set_ne e1 hmv
      clear HW hmv
      have hdb : (d == 0) = false := by simpa using hd0
      have hikI : (i : Int) < k := by omega
      have hi00 : (0 : Int) ≤ i := by omega
      go_wp2_with (first | (go_at_call 13; refine hC3.mono ?_; rintro e w6 ⟨rfl, hb6⟩; have hC4 := same_not (k - 1) k hLn hL (by omega) (by omega) (hs5.later hb6) (hS5.later hb6) hneS.symm)
                         | (go_at_call 13; refine hC4.mono ?_; rintro e w7 ⟨rfl, hb7⟩; have hR7 : RowB w7 q L := (HR5.out.later hb6).later hb7)
                         | fail)
      refine (clone_any w7 (some ⟨q, 0, none⟩) k k L hL (by omega) hR7.sv (fun h => by cases h)).mono ?_
      rintro e w8 ⟨a8, rfl, hs8, hf8, hb8⟩
      obtain ⟨rfl, hR8⟩ : a8 = some ⟨w7.heap.size, 0, none⟩ ∧ RowB w8 w7.heap.size L := by
        rcases hf8 with ⟨-, h⟩ | h
        · omega
        · exact h
      have hR8' := hR7.later hb8
      have HB7 : Hid (Below q w' w7) := (HB5.out.trans (hb6.mono (by rw [← hq]; exact HB5.out.size))).trans (hb7.mono (by have := HB5.out.size; have := hb6.size; omega))
      have hq7 : q < w7.heap.size := hR7.lt
      have c1 := hR8'.cell e1
      have c2 := hR8.cell e1
      have f2 := hR8.fz i
      generalize hg7 : w7.heap.size = g7 at *
      have HN : Hid (RowB (w8.setCell ⟨g7, i, none⟩ (.int .i64 (wrap64 (u + d)))) g7 (L.set i (wrap64 (u + d)))) := hR8.set _ _
      have HN' : Hid (RowB (w8.setCell ⟨g7, i, none⟩ (.int .i64 (wrap64 (u + d)))) q L) := hR8'.far (by omega)
      have HB8 : Hid (Below q w' (w8.setCell ⟨g7, i, none⟩ (.int .i64 (wrap64 (u + d))))) := by
        have h1 := HB7.out.size
        exact (HB7.out.trans (hb8.mono (by omega))).setCell (show q ≤ g7 from Nat.le_of_lt hq7) _
      clear hs8 hf8 hb8 hR8 hR8' hs5 hS5 hC3 hC4 hR7 hb6 hb7 HR5 HB5
      have hlS : (L.set i (wrap64 (u + d))).length = k := by simp [hL]
      go_wp2_with fail
      clear c1 c2 f2
      have HNs : Hid (L ≠ L.set i (wrap64 (u + d))) := HST.out.symm
      generalize hW9 : World.setCell _ _ _ = w9
      have hR9 : RowB w9 g7 (L.set i (wrap64 (u + d))) := by rw [← hW9]; exact HN.out
      have hR9' : RowB w9 q L := by rw [← hW9]; exact HN'.out
      have HB9 : Hid (Below q w' w9) := by rw [← hW9]; exact HB8.out
      clear hW9 HN HN' HB8
      generalize L.set i (wrap64 (u + d)) = L2 at *
      refine (same_not k k hL hlS (by omega) (by omega) hR9'.sv hR9.sv HNs.out).mono ?_
      rintro e w10 ⟨rfl, hb10⟩
      have hC6 := same_not k k hlS hL (by omega) (by omega) (hR9.later hb10).sv (hR9'.later hb10).sv HST.out
      go_wp2_with fail
      refine hC6.mono ?_
      rintro e w11 ⟨rfl, hb11⟩
      go_wp2
      go_ret
      rw [hq]
      exact ⟨rfl, (HB9.out.trans (hb10.mono (by rw [← hq]; exact HB9.out.size))).trans (hb11.mono (by have := HB9.out.size; have := hb10.size; omega))⟩
end Go.Proofs.Qxb6001222a
