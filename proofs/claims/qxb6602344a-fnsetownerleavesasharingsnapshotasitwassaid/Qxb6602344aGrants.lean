import Derived.Test.Qxb6602344aBlocks
namespace Go.Proofs.Qxb6602344a
open Go.ChangeShapes Go.WideShapes Go.ChangeAt Go.RowKit
open Classical
set_option linter.unusedVariables false
set_option linter.unusedSimpArgs false

theorem zero4 (w : World) : (zeroValue 4).run Try.prog w = .ok (.bool false) w := by kernel_rfl
theorem same_length {a b : List ByteArray} (ha : a.Nodup) (hb : b.Nodup) (h : ∀ x, x ∈ a ↔ x ∈ b) : a.length = b.length := ((List.perm_ext_iff_of_nodup ha hb).2 h).length_eq
theorem keysOf_nodup (R : Nat → Gr) : ∀ n, (keysOf R n).Nodup
  | 0 => by simp [keysOf]
  | n + 1 => addK_nodup (keysOf_nodup R n) _
theorem GM.below {w w' : World} {hm base : Nat} {e : TypeId} {size : Nat} {keys : List ByteArray} {G : ByteArray → List Value} {vs : ByteArray → Value} (h : GM w hm base e size keys G vs) (hb : Below w.heap.size w w') : GM w' hm base e size keys G vs := h.kept (fun b hlt _ => hb.block b hlt)
theorem HL.views {w w' : World} {q m : Nat} {I : List Nat} {R : Nat → Gr} {v1 v2 v3 : Value} (h : HL w w' q m I R v1 v2 v3) (hm : I.length = m) :
    ∃ a1 c1 a2 c2 a3 c3, v1 = .slice a1 m c1 ∧ v2 = .slice a2 m c2 ∧ v3 = .slice a3 m c3 ∧ StrV w' a1 m (fun p => (R (I.getD p 0)).p) ∧ StrV w' a2 m (fun p => (R (I.getD p 0)).o) ∧ BoolV w' a3 m (fun p => (R (I.getD p 0)).t) := by
  obtain ⟨a1, c1, e1, f1⟩ := own_view h.o1
  obtain ⟨a2, c2, e2, f2⟩ := own_view h.o2
  obtain ⟨a3, c3, e3, f3⟩ := own_view h.o3
  have hg : ∀ p, p < m → (I.take m)[p]? = some (I.getD p 0) := fun p hp => by
    rw [List.getElem?_take_of_lt hp, List.getD_eq_getElem?_getD, List.getElem?_eq_getElem (by omega)]
    rfl
  refine ⟨a1, c1, a2, c2, a3, c3, e1, e2, e3, fun h0 => ?_, fun h0 => ?_, fun h0 => ?_⟩
  · obtain ⟨b, rfl, hc⟩ := f1 h0
    exact ⟨b, 0, rfl, fun p hp => hc p _ (by rw [List.getElem?_map, hg p hp]; rfl)⟩
  · obtain ⟨b, rfl, hc⟩ := f2 h0
    exact ⟨b, 0, rfl, fun p hp => hc p _ (by rw [List.getElem?_map, hg p hp]; rfl)⟩
  · obtain ⟨b, rfl, hc⟩ := f3 h0
    exact ⟨b, 0, rfl, fun p hp => hc p _ (by rw [List.getElem?_map, hg p hp]; rfl)⟩
/-- by[g] -/
theorem by_view {w : World} {hm base : Nat} {R : Nat → Gr} {n : Nat} {vs : ByteArray → Value} (h : GM w hm base 3 1 (keysOf R n) (idxOf R n) vs) {k : ByteArray} (hk : k.size ≤ maxLen) :
    ∃ fa fc, (Instr.lookup 39 (.map (some hm)) (.string k) false).run Try.prog w = .ok (.slice fa (idxL R n k).length fc) w ∧ IntV w fa (idxL R n k).length (fun p => (idxL R n k).getD p 0) := by
  obtain ⟨m, hm0⟩ := h.at k
  have hml : (idxL R n k).length = m := by
    have := hm0.1
    unfold idxOf at this
    rw [List.length_map] at this
    omega
  obtain ⟨a, c, hv, hf⟩ := own_view hm0
  refine ⟨a, c, ?_, fun h0 => ?_⟩
  · have := (h.map.look (T := 39) (E := 46) Try.underlying39 (zero46 _) hk).1
    change (Instr.lookup 39 (.map (some hm)) (.string k) false).run Try.prog w = .ok (valAt (keysOf R n) vs k) w at this
    rw [this, hv, hml]
  · obtain ⟨b, rfl, hc⟩ := hf (by omega)
    refine ⟨b, 0, rfl, fun p hp => hc p _ ?_⟩
    show _ = some (Value.int .i64 (((idxL R n k).getD p 0 : Nat) : Int))
    unfold idxOf
    rw [List.getElem?_map, List.getD_eq_getElem?_getD, List.getElem?_eq_getElem hp]
    rfl
theorem idxL_lt {R : Nat → Gr} {n : Nat} {k : ByteArray} {p : Nat} (hp : p < (idxL R n k).length) : (idxL R n k).getD p 0 < n := by
  rw [List.getD_eq_getElem?_getD, List.getElem?_eq_getElem hp]
  have h1 : (idxL R n k)[p] ∈ idxL R n k := List.getElem_mem hp
  exact List.mem_range.1 (List.mem_filter.1 h1).1
/-- The names seen so far. -/
structure SE (w1 wr : World) (sm : Nat) (P : ByteArray → Prop) : Prop where
  ex : ∃ seen vs, MapIs wr sm seen vs ∧ (∀ k ∈ seen, vs k = .bool true) ∧ ∀ x, x ∈ seen ↔ P x
  bel : Below w1.heap.size w1 wr

theorem SE.put {w1 w2 : World} {sm : Nat} {P P' : ByteArray → Prop} {seen : List ByteArray} {vs : ByteArray → Value} {k : ByteArray} (hv : ∀ k ∈ seen, vs k = .bool true) (hP : ∀ x, x ∈ seen ↔ P x) (hP' : ∀ x, P' x ↔ P x ∨ x = k) (hm : MapIs w2 sm (addK seen k) (updV vs k (.bool true))) (hb : Below w1.heap.size w1 w2) : SE w1 w2 sm P' :=
  ⟨⟨_, _, hm, fun x hx => by
    by_cases e : x = k
    · subst e; exact updV_at _ _ _
    · rw [updV_far _ _ e]; exact hv x ((mem_addK.1 hx).resolve_right e), fun x => by rw [mem_addK, hP, hP']⟩, hb⟩
theorem SE.later {w1 wr w2 : World} {sm : Nat} {P : ByteArray → Prop} (h : SE w1 wr sm P) (hb : Below wr.heap.size wr w2) : SE w1 w2 sm P := by
  obtain ⟨seen, vs, h1, h2, h3⟩ := h.ex
  exact ⟨⟨seen, vs, h1.same (hb.block _ h1.lt), h2, h3⟩, h.bel.trans (hb.mono h.bel.size)⟩

set_option maxRecDepth 20000 in
set_option maxHeartbeats 8000000 in
theorem isGrants_any {w : World} {sb so cap : Nat} {O : Nat → Nat} {hm base : Nat} {db nm ow : ByteArray} {N : Nat} {S E : Nat → ByteArray} {keys : List ByteArray} {vs : ByteArray → Value} {R : Nat → Gr} {n n5 c c5 : Nat} {a a5 : Option Addr} (h : Snap w sb so cap O hm base db nm ow N S keys (rightsOf R n) vs) (hN : N ≤ 65536) (hn : n ≤ 65536) (hn5 : n5 ≤ 65536)
    (ha : GrV w a n R) (h5 : StrV w a5 n5 E) (zR : ∀ i, i < n → (R i).g.size ≤ maxLen) (zE : ∀ i, i < n5 → (E i).size ≤ maxLen) (hkeys : ∀ x, x ∈ keys ↔ (∃ i, i < n5 ∧ E i = x) ∨ ∃ i, i < n ∧ (R i).g = x) :
    Calls Try.prog 24 #[Ptr sb, .slice a n c, .slice a5 n5 c5] w fun e w' => e = .returned (.bool true) ∧ Below w.heap.size w w' := by
  have hBy := by_any w a n c R hn ha zR
  have hmm := @run_makeMap Try.prog
  go_enter Try.func24, Try.ntmps24
  go_wp2_with fail
  refine hBy.mono ?_
  rintro e w1 ⟨hb, vb, ov, rfl, hgm, hord, hbge, hbel⟩
  clear hBy
  obtain ⟨oa, oc, rfl, hof⟩ := own_view hord
  have HS : Hid (Snap w1 sb so cap O hm base db nm ow N S keys (rightsOf R n) vs) := h.below hbel
  have HA : Hid (GrV w1 a n R) := ha.later hbel
  have H5 : Hid (StrV w1 a5 n5 E) := h5.later hbel
  have HK : Hid _ := hkeys
  have ZR : Hid _ := zR
  have ZE : Hid _ := zE
  have HG : Hid (GM w1 hb w.heap.size 3 1 (keysOf R n) (idxOf R n) vb) := hgm
  have HBw : Hid (Below w.heap.size w w1) := hbel
  have HOF : Hid _ := hof
  have hlk := keysOf_len R n
  have HSE : Hid (SE w1 (w1.alloc (.map #[] 0)) w1.heap.size (fun x => x ∈ (keysOf R n).take 0)) := ⟨⟨[], fun _ => .bool true, MapIs.made _ _, by simp, by simp⟩, (Below.refl _ _).alloc (Nat.le_refl _) _⟩
  clear h ha h5 zR zE hkeys hgm hord hbel hof
  generalize hLL : (keysOf R n).length = L at *
  have hLL' : Hid ((keysOf R n).length = L) := hLL
  clear hLL
  go_wp2
  generalize hsm : w1.heap.size = sm at *
  go_loopw [10] (fun t wr => ∃ j : Nat, j ≤ L ∧ t = .int .i64 j ∧ SE w1 wr sm (fun x => x ∈ (keysOf R n).take j)) (fun t _ => L - (intOf t).toNat)
  case atStart => exact ⟨0, Nat.zero_le _, rfl, HSE.out⟩
  case round =>
    obtain ⟨j, hj, rfl, hse⟩ := hrel
    by_cases hlt : j < L
    · obtain ⟨ob, rfl, hoc⟩ := HOF.out (by omega)
      have hjl : j < (keysOf R n).length := by rw [hLL'.out]; exact hlt
      have hkj : (keysOf R n)[j]? = some ((keysOf R n)[j]) := List.getElem?_eq_getElem hjl
      generalize (keysOf R n)[j] = g at hkj
      have hgin : g ∈ keysOf R n := List.mem_of_getElem? hkj
      obtain ⟨i0, hi0, hgi⟩ := (mem_keysOf R n g).1 hgin
      have hgz : g.size ≤ maxLen := by rw [← hgi]; exact ZR.out i0 hi0
      have cg : wr.cell? ⟨ob, j, none⟩ = some (.string g) := by
        have := hoc j (.string g) (by rw [List.getElem?_map, hkj]; rfl)
        rw [Nat.zero_add] at this
        exact cell_later (by rw [hsm]; exact hsm ▸ hse.bel) this
      have hjI : (j : Int) < L := by omega
      obtain ⟨seen, vs2, hmap, hvs, hP⟩ := hse.ex
      obtain ⟨w2, hu2, hm2, hfar2, hgr2, hsz2⟩ := hmap.update (T := 42) (E := 4) Try.underlying42 hgz (.bool true)
      have hb2 : Below w1.heap.size w1 w2 := hse.bel.grown hgr2 (by have := hse.bel.size; omega) (fun x hx => by cases hx; omega)
      have hse2 : SE w1 w2 sm (fun x => x ∈ (keysOf R n).take (j + 1)) := SE.put hvs hP (fun x => by rw [List.take_add_one, hkj]; simp) hm2 hb2
      have hHe := held_any (HS.out.below hb2) hN hn hgz
      have hpres : decide (g ∈ keys) = true := decide_eq_true ((HK.out g).2 (Or.inr ⟨i0, hi0, hgi⟩))
      rw [hpres] at hHe
      have HSE2 : Hid _ := hse2
      clear hse2 hm2 hfar2 hgr2 hsz2 hmap hvs hP hpres hoc hse HSE
      go_wp2_with fail
      refine hHe.mono ?_
      rintro e w3 ⟨v1, v2, v3, rfl, hhl⟩
      clear hHe
      obtain ⟨a1, c1, a2, c2, a3, c3, rfl, rfl, rfl, q1, q2, q3⟩ := hhl.views rfl
      have hb3 : Below w1.heap.size w1 w3 := hb2.trans (hhl.bel.mono hb2.size)
      obtain ⟨fa, fc, hlk3, hfv⟩ := by_view (HG.out.below hb3) hgz
      have hBl := blocks_any w3 a fa a1 a2 a3 n _ c fc c1 c2 c3 R _ hn (by have := idxOf_len R n g; unfold idxOf at this; rw [List.length_map] at this; omega) (HA.out.later hb3) hfv (fun p hp => idxL_lt hp) q1 q2 q3
      have HSE3 : Hid (SE w1 w3 sm (fun x => x ∈ (keysOf R n).take (j + 1))) := SE.later HSE2.out hhl.bel
      clear hhl hb2 hb3 hfv q1 q2 q3 HSE2
      generalize (idxL R n g).length = mm at *
      go_wp2_with fail
      refine hBl.mono ?_
      rintro e w4 ⟨rfl, hb4⟩
      have HSE4 : Hid (SE w1 w4 sm (fun x => x ∈ (keysOf R n).take (j + 1))) := SE.later HSE3.out hb4
      clear hBl hb4 HSE3 hlk3
      go_wp2
      go_roundw
      case rel => exact ⟨j + 1, by omega, by go_num, HSE4.out⟩
      case measure => simp [intOf]; omega
    · obtain rfl : j = L := by omega
      have HSE2 : Hid (SE w1 wr sm (fun x => x ∈ keysOf R n ∨ ∃ i, i < 0 ∧ E i = x)) := by
        obtain ⟨seen, vs2, q1, q2, q3⟩ := hse.ex
        exact ⟨⟨seen, vs2, q1, q2, fun x => by rw [q3, List.take_of_length_le (by rw [hLL'.out]; exact Nat.le_refl _)]; simp⟩, hse.bel⟩
      clear hse HSE
      go_wp2
      go_loopw [16] (fun t wr => ∃ j : Nat, j ≤ n5 ∧ t = .int .i64 j ∧ SE w1 wr sm (fun x => x ∈ keysOf R n ∨ ∃ i, i < j ∧ E i = x)) (fun t _ => n5 - (intOf t).toNat)
      case atStart => exact ⟨0, Nat.zero_le _, rfl, HSE2.out⟩
      case round =>
        obtain ⟨j5, hj5, rfl, hse⟩ := hrel
        clear HSE2
        by_cases hlt5 : j5 < n5
        · obtain ⟨eb, eo, rfl, hec⟩ := H5.out (by omega)
          have ce : wr.cell? ⟨eb, eo + j5, none⟩ = some (.string (E j5)) := cell_later hse.bel (hec j5 hlt5)
          have hez := ZE.out j5 hlt5
          have hjI5 : (j5 : Int) < n5 := by omega
          obtain ⟨seen, vs2, hmap, hvs, hP⟩ := hse.ex
          have hlk2 := (hmap.look (T := 42) (E := 4) Try.underlying42 (zero4 _) hez).1
          have HSEr : Hid (SE w1 wr sm (fun x => x ∈ keysOf R n ∨ ∃ i, i < j5 ∧ E i = x)) := hse
          by_cases hin : E j5 ∈ seen
          · rw [if_pos hin, hvs _ hin] at hlk2
            have HN : Hid (SE w1 wr sm (fun x => x ∈ keysOf R n ∨ ∃ i, i < j5 + 1 ∧ E i = x)) := by
              refine ⟨⟨seen, vs2, hmap, hvs, fun x => ?_⟩, hse.bel⟩
              rw [hP]
              constructor
              · rintro (h | ⟨i, h1, h2⟩)
                · exact Or.inl h
                · exact Or.inr ⟨i, by omega, h2⟩
              · rintro (h | ⟨i, h1, h2⟩)
                · exact Or.inl h
                · by_cases e : i = j5
                  · subst e; subst h2; exact (hP _).1 hin
                  · exact Or.inr ⟨i, by omega, h2⟩
            clear hse hmap hvs hP hec HSEr hin
            go_wp2
            go_roundw
            case rel => exact ⟨j5 + 1, by omega, by go_num, HN.out⟩
            case measure => simp [intOf]; omega
          · rw [if_neg hin] at hlk2
            have hnk : E j5 ∉ keysOf R n := fun hc => hin ((hP _).2 (Or.inl hc))
            have hil : (idxL R n (E j5)).length = 0 := by
              have := (idxOf_nil R n (E j5)).2 hnk
              unfold idxOf at this
              rwa [List.length_map] at this
            obtain ⟨w2, hu2, hm2, hfar2, hgr2, hsz2⟩ := hmap.update (T := 42) (E := 4) Try.underlying42 hez (.bool true)
            have hb2 : Below w1.heap.size w1 w2 := hse.bel.grown hgr2 (by have := hse.bel.size; omega) (fun x hx => by cases hx; omega)
            have hse2 : SE w1 w2 sm (fun x => x ∈ keysOf R n ∨ ∃ i, i < j5 + 1 ∧ E i = x) := SE.put hvs hP (fun x => by
              constructor
              · rintro (h | ⟨i, h1, h2⟩)
                · exact Or.inl (Or.inl h)
                · by_cases e : i = j5
                  · subst e; exact Or.inr h2.symm
                  · exact Or.inl (Or.inr ⟨i, by omega, h2⟩)
              · rintro ((h | ⟨i, h1, h2⟩) | h)
                · exact Or.inl h
                · exact Or.inr ⟨i, by omega, h2⟩
                · exact Or.inr ⟨j5, by omega, h.symm⟩) hm2 hb2
            have hHe := held_any (HS.out.below hb2) hN hn hez
            have hpres : decide (E j5 ∈ keys) = true := decide_eq_true ((HK.out _).2 (Or.inl ⟨j5, hlt5, rfl⟩))
            rw [hpres, hil] at hHe
            have HSE2 : Hid _ := hse2
            have HIL : Hid _ := hil
            clear hse2 hm2 hfar2 hgr2 hsz2 hmap hvs hP hpres hec hse HSEr hin hnk hb2 hil
            go_wp2_with fail
            refine hHe.mono ?_
            rintro e w3 ⟨v1, v2, v3, rfl, hhl⟩
            clear hHe
            obtain ⟨a1, c1, a2, c2, a3, c3, rfl, rfl, rfl, -, -, -⟩ := hhl.views HIL.out
            have HSE3 : Hid (SE w1 w3 sm (fun x => x ∈ keysOf R n ∨ ∃ i, i < j5 + 1 ∧ E i = x)) := SE.later HSE2.out hhl.bel
            clear hhl HSE2 hlk2 hu2
            go_wp2
            go_roundw
            case rel => exact ⟨j5 + 1, by omega, by go_num, HSE3.out⟩
            case measure => simp [intOf]; omega
        · obtain rfl : j5 = n5 := by omega
          have hO := object0_any (HS.out.below hse.bel) hN
          obtain ⟨seen, vs2, hmap, hvs, hP⟩ := hse.ex
          have HLen : Hid (keys.length = seen.length) := same_length HS.out.gm.map.nd hmap.nd (fun x => by
            rw [hP, HK.out x, mem_keysOf]
            constructor
            · rintro (h | h)
              · exact Or.inr h
              · exact Or.inl h
            · rintro (h | h)
              · exact Or.inr h
              · exact Or.inl h)
          rw [show keys.length = seen.length from HLen.out] at hO
          have HM : Hid _ := hmap
          have HBr : Hid (Below w1.heap.size w1 wr) := hse.bel
          clear hse hmap hvs hP
          go_wp2_with fail
          refine hO.mono ?_
          rintro e w9 ⟨rfl, hb9⟩
          have hlen9 := (HM.out.same (hb9.block _ HM.out.lt)).len 42 3 4 Try.underlying42
          have HB9 : Hid (Below w.heap.size w w9) := by
            have h1 : Below w1.heap.size w1 w9 := HBr.out.trans (hb9.mono HBr.out.size)
            exact HBw.out.trans (h1.mono HBw.out.size)
          clear hO hb9 HM
          generalize seen.length = sl at *
          go_wp2
          go_ret
          exact ⟨rfl, HB9.out⟩
end Go.Proofs.Qxb6602344a
