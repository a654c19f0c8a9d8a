import Derived.Test.Qxb6602344aSet
namespace Go.Proofs.Qxb6602344a
open Go.ChangeShapes Go.WideShapes Go.ChangeAt Go.RowKit
open Classical
set_option linter.unusedVariables false
set_option linter.unusedSimpArgs false

theorem len_cell {w : World} {sb so cap N : Nat} (h : w.cell? ⟨sb, 1, none⟩ = some (.slice (some ⟨so, 0, none⟩) (N + 1) cap)) : Calls Try.prog 23 #[Ptr sb] w fun e w' => e = .returned (.int .i64 ((N : Int) + 1)) ∧ w' = w := by
  go_enter Try.func23, Try.ntmps23
  go_wp2
  go_ret
  exact ⟨by simp, rfl⟩
theorem Fr.below {x B : Nat} {w w' : World} (h : Fr (fun b => b = x) w w') (hB : B ≤ w.heap.size) (hx : B ≤ x) : Below B w w' := ⟨h.os, h.tape, h.output, h.size, fun b hb => h.block b (by omega) (by omega)⟩

set_option maxRecDepth 20000 in
set_option maxHeartbeats 8000000 in
theorem sharing_law (w : World) (s0 s1 s2 s3 : ByteArray) (a4 a5 a6 : Option Addr) (n4 n5 n6 c4 c5 c6 : Nat) (R : Nat → Gr) (E S : Nat → ByteArray)
    (h4 : GrV w a4 n4 R) (h5 : StrV w a5 n5 E) (h6 : StrV w a6 n6 S) (m4 : n4 ≤ maxLen) (m5 : n5 ≤ maxLen) (m6 : n6 ≤ maxLen) (l4 : a4 = none → n4 = 0 ∧ c4 = 0) (l5 : a5 = none → n5 = 0 ∧ c5 = 0) (l6 : a6 = none → n6 = 0 ∧ c6 = 0)
    (zR : ∀ i, i < n4 → (R i).g.size ≤ maxLen) (zE : ∀ i, i < n5 → (E i).size ≤ maxLen) (z3 : s3.size ≤ maxLen) :
    Calls Try.prog 4 #[.string s0, .string s1, .string s2, .string s3, .slice a4 n4 c4, .slice a5 n5 c5, .slice a6 n6 c6] w fun e w' => e = .returned (.bool true) ∧ Below w.heap.size w w' := by
  have hZ := zzBytes22 w s0 s1 s2 s3 a4 a5 a6 n4 n5 n6 c4 c5 c6 R E S h4 h5 h6 m4 m5 m6
  have hFi := fits_any w s0 s1 s2 s3 a4 a5 a6 n4 n5 n6 c4 c5 c6 R E S h4 h5 h6 m4 m5 m6
  have H4 : Hid _ := h4
  have H5 : Hid _ := h5
  have H6 : Hid _ := h6
  have ZR : Hid _ := zR
  have ZE : Hid _ := zE
  have L4 : Hid _ := l4
  have L5 : Hid _ := l5
  have L6 : Hid _ := l6
  clear h4 h5 h6 m4 m5 m6 zR zE l4 l5 l6
  go_enter Try.func4, Try.ntmps4
  go_wp2_with fail
  refine hZ.mono ?_
  rintro e w' ⟨he, rfl⟩
  clear hZ
  rcases he with rfl | rfl
  rotate_left
  · go_wp2
    go_ret
    exact ⟨rfl, Below.refl _ _⟩
  go_wp2_with fail
  refine hFi.mono ?_
  rintro e w1 ⟨he, hb1⟩
  clear hFi
  rcases he with ⟨rfl, b4, b5, b6⟩ | rfl
  rotate_left
  · go_wp2
    go_ret
    exact ⟨rfl, hb1⟩
  have hC1 := cloneGr_any w1 a4 n4 c4 R b4 (GrV.later H4.out hb1) L4.out
  go_wp2_with fail
  refine hC1.mono ?_
  rintro e w2 ⟨x4, rfl, v4, hb2⟩
  clear hC1
  have hb02 : Below w'.heap.size w' w2 := hb1.trans (hb2.mono hb1.size)
  have hC2 := cloneStr_any w2 a5 n5 c5 E b5 (StrV.later H5.out hb02) L5.out
  go_wp2_with fail
  refine hC2.mono ?_
  rintro e w3 ⟨x5, rfl, v5, hb3⟩
  clear hC2
  have hb03 : Below w'.heap.size w' w3 := hb02.trans (hb3.mono hb02.size)
  have hC3 := cloneStr_any w3 a6 n6 c6 S b6 (StrV.later H6.out hb03) L6.out
  go_wp2_with fail
  refine hC3.mono ?_
  rintro e w4 ⟨x6, rfl, v6, hb4⟩
  clear hC3
  have hb04 : Below w'.heap.size w' w4 := hb03.trans (hb4.mono hb03.size)
  have v4' : GrV w4 x4 n4 R := (v4.later hb3).later hb4
  have v5' : StrV w4 x5 n5 E := v5.later hb4
  have hSp := split_any w4 x4 n4 n4 R b4 v4'
  clear v4 v5 hb1 hb2 hb3 hb4 hb02 hb03
  go_wp2_with fail
  refine hSp.mono ?_
  rintro e w5 ⟨y0, y1, y2, y3, rfl, u0, u1, u2, u3, hb5⟩
  clear hSp
  have hb05 : Below w'.heap.size w' w5 := hb04.trans (hb5.mono hb04.size)
  have V4 : Hid (GrV w5 x4 n4 R) := v4'.later hb5
  have V5 : Hid (StrV w5 x5 n5 E) := v5'.later hb5
  have V6 : Hid (StrV w5 x6 n6 S) := v6.later hb5
  have hMk := make_any w5 s0 s1 s2 y0 y1 y2 y3 x5 x6 n4 n5 n6 n4 n4 n4 n4 n5 n6 R E S b4 b5 b6 u0 u1 u2 u3 V5.out V6.out ZR.out ZE.out
  have HB5 : Hid (Below w'.heap.size w' w5) := hb05
  clear v4' v5' v6 hb5 hb04 hb05 u0 u1 u2 u3
  go_wp2_with fail
  refine hMk.mono ?_
  rintro e w6 ⟨sb, so, cap, O, hm, keys, vs, rfl, hS6, hkeys, hsoge, hb6⟩
  clear hMk
  have hkl : keys.length ≤ 200000 := by
    have := len_sub (b := (List.range n5).map E ++ (List.range n4).map (fun i => (R i).g)) hS6.gm.map.nd (fun x hx => by
      rcases (hkeys x).1 hx with ⟨i, h1, h2⟩ | ⟨i, h1, h2⟩
      · exact List.mem_append_left _ (List.mem_map.2 ⟨i, List.mem_range.2 h1, h2⟩)
      · exact List.mem_append_right _ (List.mem_map.2 ⟨i, List.mem_range.2 h1, h2⟩))
    simp at this
    omega
  have HKy : Hid _ := hkeys
  have hSh := share_any hS6 b6
  have hso6 : so < w6.heap.size := by obtain ⟨c, h1, _⟩ := hS6.objs; exact lt_of_heap h1
  clear hkeys hS6
  go_wp2_with fail
  refine hSh.mono ?_
  rintro e w7 ⟨rfl, hC7, hS7, hb7⟩
  clear hSh
  have hSet := zzSet_any (nw := s3) hS7 b6 b4 hkl z3
  have hb57 : Below w5.heap.size w5 w7 := hb6.trans (hb7.mono hb6.size)
  go_wp2_with fail
  refine hSet.mono ?_
  rintro e w8 ⟨rfl, hFr, hcel⟩
  clear hSet
  obtain ⟨oc, hoc, hog⟩ := hS7.objs
  have hC8 := hC7.kept hoc (Nat.ne_of_gt hso6) (fun b hlt hne => hFr.block b hlt hne)
  have hs8 : w8.cell? ⟨sb, 1, none⟩ = some (.slice (some ⟨so, 0, none⟩) (n6 + 1) cap) := by
    have hne : sb ≠ so := fun e => by have h1 := hS7.top; rw [e, hoc] at h1; cases h1
    have := hS7.c1
    rw [← this]
    simp only [World.cell?, hFr.block sb (lt_of_heap hS7.top) hne]
  have hb58 : Below w5.heap.size w5 w8 := hb57.trans (hFr.below hb57.size hsoge)
  have W4 : Hid (GrV w8 x4 n4 R) := GrV.later V4.out hb58
  have W5 : Hid (StrV w8 x5 n5 E) := StrV.later V5.out hb58
  have W6 : Hid (StrV w8 x6 n6 S) := StrV.later V6.out hb58
  have HC8 : Hid (Snap w8 (w6.heap.size + 1) w6.heap.size (n6 + 1) O hm w5.heap.size s0 s1 s2 n6 S keys (rightsOf R n4) vs) := hC8
  have HS8 : Hid _ := hs8
  have HCl : Hid _ := hcel
  have HB8 : Hid (Below w'.heap.size w' w8) := HB5.out.trans (hb58.mono HB5.out.size)
  have hDb := database_any hC8
  have hOt := others_any (c := n6) hC8 b6 W6.out
  clear hS7 hC7 hb6 hb7 hb57 hb58 hoc hog hFr hC8 hs8 hcel V4 V5 V6 HB5
  generalize w6.heap.size + 1 = cb at *
  have hcomm : (n6 : Int) + 1 = 1 + (n6 : Int) := by omega
  go_wp2_with fail
  refine hDb.mono ?_
  rintro e wq ⟨rfl, rfl⟩
  clear hDb
  go_wp2_with fail
  refine hOt.mono ?_
  rintro e w9 ⟨rfl, hb9⟩
  clear hOt
  have hLn := len_cell (cell_later hb9 HS8.out)
  have HB9 : Hid (Below wq.heap.size wq w9) := hb9
  clear hb9
  go_wp2_with fail
  refine hLn.mono ?_
  rintro e wz ⟨rfl, rfl⟩
  clear hLn
  go_wp2
  go_loopw [21] (fun t wr => ∃ k : Nat, 1 ≤ k ∧ k ≤ n6 + 1 ∧ t = .int .i64 k ∧ Below wq.heap.size wq wr) (fun t _ => n6 + 1 - (intOf t).toNat)
  case atStart => exact ⟨1, Nat.le_refl _, by omega, rfl, HB9.out⟩
  case round =>
    obtain ⟨k, hk1, hk, rfl, hbel⟩ := hrel
    have HB : Hid (Below wq.heap.size wq wr) := hbel
    clear HB9
    by_cases hlt : k ≤ n6
    · have hSm := same_any (db2 := s0) (nm2 := s0) (ow2 := s0) (hm2 := 0) (base2 := 0) (keys2 := []) (G2 := fun _ => []) (vs2 := vs) (cell_later hbel HS8.out) (cell_later hbel (HCl.out k hk1 hlt)) (HC8.out.below hbel) hlt b6
      have hkI : (k : Int) < 1 + (n6 : Int) := by omega
      clear hbel
      go_wp2_with fail
      refine hSm.mono ?_
      rintro e w10 ⟨rfl, hb10⟩
      have HB10 : Hid (Below wq.heap.size wq w10) := HB.out.trans (hb10.mono HB.out.size)
      clear hSm hb10
      go_wp2
      go_roundw
      case rel => exact ⟨k + 1, by omega, by omega, by go_num, HB10.out⟩
      case measure => simp [intOf]; omega
    · obtain rfl : k = n6 + 1 := by omega
      have hOb := object0_any (HC8.out.below hbel) b6
      have hkI : ¬ ((n6 + 1 : Nat) : Int) < 1 + (n6 : Int) := by omega
      clear hbel
      go_wp2_with fail
      refine hOb.mono ?_
      rintro e w10 ⟨rfl, hb10⟩
      have hb10' : Below wq.heap.size wq w10 := HB.out.trans (hb10.mono HB.out.size)
      have hIs := isGrants_any (c := n4) (c5 := n5) (HC8.out.below hb10') b6 b4 b5 (GrV.later W4.out hb10') (StrV.later W5.out hb10') ZR.out ZE.out HKy.out
      have HB10 : Hid (Below w'.heap.size w' w10) := HB8.out.trans (hb10'.mono HB8.out.size)
      clear hOb hb10 hb10'
      go_wp2_with fail
      refine hIs.mono ?_
      rintro e w11 ⟨rfl, hb11⟩
      have HB11 : Hid (Below w'.heap.size w' w11) := HB10.out.trans (hb11.mono HB10.out.size)
      clear hIs hb11
      go_wp2
      go_ret
      exact ⟨rfl, HB11.out⟩
end Go.Proofs.Qxb6602344a
