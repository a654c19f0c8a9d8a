import Derived.Test.Qxb6612554aSnapA
namespace Go.Proofs.Qxb6612554a
open Go.ChangeShapes Go.WideShapes Go.ChangeAt Go.RowKit
set_option linter.unusedVariables false
attribute [local go_sem ↓] Go.wp_at_zero Go.wp_at_succ
attribute [local go_sem ↓] exec_build51 exec_bs46

theorem info51 : (Try.prog.info? 51).map (fun i => (i.size, i.bytes, (i.zero.map fun z => z.cells.size))) = some (36, 64, some 36) := by kernel_rfl
theorem make46 (n : Nat) (hn : n ≤ 20000) (fd : Nat → Rec) (w : World) : ∃ Z : List Value, Z.length = n * 36 ∧ (Instr.makeSlice 46 (.int .i64 0) (.int .i64 n)).run Try.prog w = .ok (.slice (some ⟨w.heap.size, 0, none⟩) 0 n) (w.alloc (.cells Z.toArray 51)) := by
  obtain ⟨i0, hi, hz⟩ := Option.map_eq_some_iff.1 info51
  simp only [Prod.mk.injEq] at hz
  obtain ⟨h1, h2, h3⟩ := hz
  obtain ⟨z, hz0, hz1⟩ := Option.map_eq_some_iff.1 h3
  have := run_make (P := Try.prog) w 46 51 i0 z Try.underlying46 hi hz0 .i64 .i64 0 n (by omega) (by omega) (by rw [h2]; omega) (by omega)
  refine ⟨(madeCells z.cells (n * 36)).toList, by simp [size_madeCells], ?_⟩
  rw [this, h1]
  simp

theorem equal37_same (a : Addr) (w : World) : (Op.equal 37 (.pointer (some a)) (.pointer (some a))).run Try.prog w = .ok true w := by
  obtain ⟨j, h1, h2⟩ := Option.map_eq_some_iff.1 info97
  have h : ∀ d : Nat, (Op.equalIn (d + 1) 37 (.pointer (some a)) (.pointer (some a))).run Try.prog w = .ok true w := fun d => by
    simp [Op.equalIn, run_underlying Try.underlying37, sizeOf, typeInfo, h1, run_sameAddr_same]
  exact h 9999

/-- A key stored into a variable that was just made. -/
theorem wpList_store_fresh49 {ops : Array Oper} {rest : List Oper} {op : Oper} {a : Act} {w1 : World} {c : Array Value} {Q : Exit → Act → World → Prop} {i : Nat} (hgd : op.guard = none) (x y : Operand) (ho : op.op = .store 49 x y)
    (hx : a.eval x = .pointer (some ⟨w1.heap.size, 0, none⟩)) (hy : a.eval y = kv i) (hc : c.size = 32)
    (h : ∀ W2, Below w1.heap.size w1 W2 → W2.rangeAt w1.heap.size 0 (kl i) → w1.heap.size < W2.heap.size → wpList Try.prog ops Q rest (a.put op.dst undef) W2) : wpList Try.prog ops Q (op :: rest) a (w1.alloc (.cells c 49)) := by
  have ht : (w1.alloc (.cells c 49)).there w1.heap.size 0 (kl i).toArray.size := by rw [kl_size]; exact there_alloc _ (by omega)
  refine wpList_store_mid hgd 49 x y ho w1.heap.size 0 (kl i).toArray hx hy ht (by rw [kl_size]; exact size49) (all_oneCell_toArray (kl_one i)) ?_
  have hb : Below w1.heap.size w1 ((w1.alloc (.cells c 49)).setCells w1.heap.size 0 (kl i)) := below_setCells ((Below.refl _ _).alloc (Nat.le_refl _) _) (Nat.le_refl _) _ _
  refine h _ hb (World.rangeAt_setCells_same _ _ _ _ (by rw [kl_size] at ht; rw [kl_length]; exact ht)) ?_
  have h1 : Fr (fun k => k = w1.heap.size) (w1.alloc (.cells c 49)) ((w1.alloc (.cells c 49)).setCells w1.heap.size 0 (kl i)) := Fr.setCells (S := fun k => k = w1.heap.size) _ _ _ rfl
  have h2 := h1.size
  rw [World.size_alloc] at h2
  exact h2
/-- What stays while a record is made. -/
structure SS (w : World) (D : LD) (ord : List Nat) (lim : Nat) (l1 : List Nat) (w' : World) : Prop where
  ok : Lim w' D ord
  bel : Below w.heap.size w w'
  row : RowOk w.heap.size lim D.fd l1 w'
theorem SS.step {w : World} {D : LD} {ord : List Nat} {lim : Nat} {l1 : List Nat} {w1 w2 : World} (h : SS w D ord lim l1 w1) (hb : Below w1.heap.size w1 w2) : SS w D ord lim l1 w2 :=
  ⟨h.ok.below hb, h.bel.trans (hb.mono h.bel.size), h.row.later hb⟩
abbrev S2 (w : World) (D : LD) (ord : List Nat) (lim : Nat) (l1 : List Nat) (kb i : Nat) (w' : World) : Prop := w'.rangeAt kb 0 (kl i) ∧ SS w D ord lim l1 w'
theorem S2.step {w : World} {D : LD} {ord : List Nat} {lim : Nat} {l1 : List Nat} {kb i : Nat} {w1 w2 : World} (h : S2 w D ord lim l1 kb i w1) (hb : Below w1.heap.size w1 w2) : S2 w D ord lim l1 kb i w2 :=
  ⟨range_later hb h.1, h.2.step hb⟩
theorem S2.box {w : World} {D : LD} {ord : List Nat} {lim : Nat} {l1 : List Nat} {kb i : Nat} {w1 : World} (h : S2 w D ord lim l1 kb i w1) (o : Obj) : S2 w D ord lim l1 kb i (w1.alloc o) := h.step ((Below.refl _ _).alloc (Nat.le_refl _) _)

/-- One record appended. -/
theorem step_append46 {ops : Array Oper} {o : Oper} {a : Act} {w W1 : World} {K : Act → World → Prop} {Q : Exit → Act → World → Prop} {E : Prop} {g lim i : Nat} {r : Rec} {l : List Nat} {fd : Nat → Rec}
    (hg : o.guard = none) (hop : o.op = Op.call { callee := Callee.builtin Builtin.append, args := #[.tmp 30, .tmp 41], argTypes := #[46, 46] })
    (hw : w = W1.alloc (.cells (recC i r).toArray 51)) (hs : a.eval (.tmp 30) = .slice (some ⟨g, 0, none⟩) l.length lim) (hx : a.eval (.tmp 41) = .slice (some ⟨W1.heap.size, 0, none⟩) 1 1)
    (hrow : RowOk g lim fd l w) (hl : l.length < lim) (hK : K (a.put o.dst (.slice (some ⟨g, 0, none⟩) (l.length + 1) lim)) (w.setCells g (0 + l.length * 36) (recC i r))) :
    if Region.wanted o (yielded ops a.tmps) = true then Oper.wp Try.prog o a w K Q else E := by
  obtain ⟨i0, hi, hz⟩ := Option.map_eq_some_iff.1 info51
  simp only [Prod.mk.injEq] at hz
  refine step_append_room hg (.tmp 30) (.tmp 41) 46 hop 51 i0 36 Try.underlying46 hi hz.1 g 0 l.length lim hs ⟨W1.heap.size, 0, none⟩ 1 1 (recC i r) hx (by rw [recC_length]) ?_ (recC_one i r) (by omega) ?_ hK
  · intro j u hu
    rw [Addr.add_mid, hw, cell_of_block (heap_alloc_new W1 _)]
    simpa using hu
  · intro j hj
    rw [recC_length] at hj
    obtain ⟨Z, h1, h2⟩ := hrow
    rw [cell_of_block h1, frozen_of_block h1]
    refine ⟨?_, rfl⟩
    rw [Array.getElem?_eq_getElem]
    · rfl
    · have : 1 ≤ lim - l.length := by omega
      simp only [List.size_toArray, List.length_append, recs_length, h2]
      omega
theorem S2.append {w : World} {D : LD} {ord : List Nat} {lim : Nat} {l1 : List Nat} {kb i : Nat} {w1 : World} (h : S2 w D ord lim l1 kb i w1) (h0 : Lim w D ord) (hl : l1.length < lim) (hkb : w.heap.size < kb) :
    S2 w D ord lim l1 kb i (w1.setCells w.heap.size (0 + l1.length * 36) (recC i (D.fd i))) ∧ RowOk w.heap.size lim D.fd (l1 ++ [i]) (w1.setCells w.heap.size (0 + l1.length * 36) (recC i (D.fd i))) := by
  have hp := h.2.row.push hl i
  have hF : Fr (fun k => k = w.heap.size) w1 (w1.setCells w.heap.size (0 + l1.length * 36) (recC i (D.fd i))) := Fr.setCells (S := fun k => k = w.heap.size) _ _ _ rfl
  refine ⟨⟨fun j v hv => cell_fr hF (h.1 j v hv) (fun e => ?_), ?_, below_setCells h.2.bel (Nat.le_refl _) _ _, hp.weaken hl⟩, hp⟩
  · have : kb = w.heap.size := e
    omega
  · exact h.2.ok.fr hF (fun k hk e => by have := h0.blk_lt hk; omega)

/-- 'el' is the first of l, or nil. -/
def ElIs (E : Nat → Nat) (el : Value) (l : List Nat) : Prop := (l = [] ∧ el = .pointer none) ∨ ∃ i l', l = i :: l' ∧ el = Ptr (E i)
theorem elIs_of (E : Nat → Nat) (l : List Nat) : ElIs E (elOr E l.head?) l := by
  cases l with
  | nil => exact Or.inl ⟨rfl, rfl⟩
  | cons i l => exact Or.inr ⟨i, l, rfl, rfl⟩

set_option maxRecDepth 20000 in
set_option maxHeartbeats 3200000 in
/-- 'snapshot(l, limit)' -/
theorem snapshot_any {w : World} {D : LD} {ord : List Nat} (h : Lim w D ord) (lim : Nat) (hl : ord.length ≤ lim) (hlim : lim ≤ 20000) :
    Calls Try.prog 30 #[Ptr D.bl, .int .i64 lim] w fun e w' => e = .returned (.tuple #[.slice (some ⟨w.heap.size, 0, none⟩) ord.length lim, .bool true]) ∧ RowOk w.heap.size lim D.fd ord w' ∧ Below w.heap.size w w' := by
  obtain ⟨Z, hZ, hmk⟩ := make46 lim hlim D.fd w
  have HL : Hid (Lim w D ord) := h
  have hH : Hid (Calls Try.prog 45 #[Ptr D.bl] (w.alloc (.cells Z.toArray 51)) fun e w' => e = .returned (elOr D.E ord.head?) ∧ w' = (w.alloc (.cells Z.toArray 51))) := ZZFront_lim (h.below ((Below.refl _ _).alloc (Nat.le_refl _) _))
  have HR : Hid (RowOk w.heap.size lim D.fd [] (w.alloc (.cells Z.toArray 51))) := ⟨Z, heap_alloc_new _ _, by simpa using hZ⟩
  clear h hZ
  go_enter Try.func30, Try.ntmps30
  go_wp2_with fail
  refine Calls.mono hH.out ?_
  rintro e w' ⟨rfl, rfl⟩
  go_wp2
  go_loopw [6, 7, 8] (fun out el st wr => ∃ (l1 l2 : List Nat), ord = l1 ++ l2 ∧ out = .slice (some ⟨w.heap.size, 0, none⟩) l1.length lim ∧ ElIs D.E el l2 ∧ st = .int .i64 l1.length ∧ RowOk w.heap.size lim D.fd l1 wr ∧ Below w.heap.size w wr) (fun _ _ t _ => ord.length - (intOf t).toNat)
  case atStart => exact ⟨[], ord, rfl, rfl, elIs_of _ _, rfl, HR.out, (Below.refl _ _).alloc (Nat.le_refl _) _⟩
  case round =>
    obtain ⟨l1, l2, hord, rfl, hel, rfl, hrow, hbel⟩ := hrel
    have HO : Hid (ord = l1 ++ l2) := hord
    have HRow : Hid (RowOk w.heap.size lim D.fd l1 wr) := hrow
    have HBel : Hid (Below w.heap.size w wr) := hbel
    have hlen : ord.length = l1.length + l2.length := by rw [hord]; simp
    have HLr : Hid (Lim wr D ord) := HL.out.below hbel
    clear hrow hbel hH HR hmk hord
    generalize elOr D.E ord.head? = vf
    rcases hel with ⟨rfl, rfl⟩ | ⟨i, l2, rfl, rfl⟩
    · have hlen' : ord.length = l1.length := by simpa using hlen
      have hNK := ZZNumKeys_lim HLr.out
      have hLL := ZZListLen_lim HLr.out
      rw [hlen'] at hNK hLL
      clear hlen
      have HLen : Hid (ord.length = l1.length) := hlen'
      clear hlen'
      go_wp2_with (first | (go_at_call 52; refine hNK.mono ?_; rintro e w' ⟨rfl, rfl⟩) | (go_at_call 53; refine hLL.mono ?_; rintro e w' ⟨rfl, rfl⟩))
      go_ret2
      have e1 : ord = l1 := by rw [HO.out]; simp
      refine ⟨?_, ?_, HBel.out⟩
      · rw [e1]; rfl
      · rw [e1]; exact HRow.out
    · have hkl : (l1.length : Int) < lim := by simp at hlen; omega
      have hkl2 : l1.length < lim := by omega
      have hio : i ∈ ord := by rw [HO.out]; simp
      have hi : i < D.n := HL.out.lt hio
      have hC := ZZKey_lim HLr.out hi
      have hcmp : ∀ W : World, (binOp .neq 37 (Ptr (D.E i)) (Ptr (D.E i))).run Try.prog W = .ok (.bool false) W := fun W => neq_of W (equal37_same _ W)
      have hKE : ∀ W : World, Lim W D ord → Calls Try.prog 47 #[Ptr D.bl, kv i] W fun e w' => e = .returned (Ptr (D.E i)) ∧ Below W.heap.size W w' := by
        intro W hW
        have := ZZKeyElem_lim hW (i := i) (by have := hW.small; omega)
        rw [if_pos hio] at this
        exact this
      have HKE : Hid _ := hKE
      clear hKE
      go_wp2_with (first
        | (go_at_call 46; refine hC.mono ?_; rintro e w1 ⟨rfl, hb1⟩)
        | (refine wpList_store_fresh49 (i := i) (by rfl) (.tmp 9) (.tmp 23) (by rfl) (by rfl) (by rfl) (by rfl) ?_; intro W2 hb2 hr2 hs2; have HR2 : Hid _ := hr2; clear hr2)
        | (refine wpList_load_mid rfl 49 (.tmp 9) rfl w1.heap.size 0 (by rfl) (kl i) _ HR2.out Try.underlying49 rfl (by rw [kl_length]; exact size49) ?_)
        | (go_at_call 47; refine (HKE.out _ ((HLr.out.below hb1).below hb2)).mono ?_; rintro e w3 ⟨rfl, hb3⟩))
      have HS0 : Hid (S2 w D ord lim l1 w1.heap.size i w3.drew) := by
        have hb3' : Below W2.heap.size W2 w3.drew := hb3.drew
        have hbb : Below wr.heap.size wr w3.drew := (hb1.trans (hb2.mono hb1.size)).trans (hb3'.mono (Nat.le_trans hb1.size hb2.size))
        exact ⟨range_later hb3' HR2.out, SS.step ⟨HLr.out, HBel.out, HRow.out⟩ hbb⟩
      have hkb1 : w.heap.size < w1.heap.size := by
        obtain ⟨Z', hz', _⟩ := HRow.out
        have := lt_of_heap hz'
        have := hb1.size
        omega
      clear hb1 hb2 hb3 HR2 hs2 HKE hC hcmp
      have hu := Try.underlying49
      have hi49 : (Try.prog.info? 49).map (·.size) = some (kl i).length := by rw [kl_length]; exact size49
      have hl32 := kl_length i
      have h1c := kl_one i
      go_region_held3 (fun w' => w'.rangeAt w1.heap.size 0 (kl i) ∧ SS w D ord lim l1 w')
        (first | (have hq := ‹_ ∧ RowOk _ _ _ _ _›; exact hq.1) | exact HS0.out | assumption | exact S2.step hHa hb4 | exact S2.step hHb hb5 | (have hh := ‹_ ∧ SS _ _ _ _ _ _›; exact S2.box hh _))
        (first | (have hHc := ‹_ ∧ SS _ _ _ _ _ _›; refine step_append46 (i := i) (r := D.fd i) (l := l1) (lim := lim) (fd := D.fd) (g := w.heap.size) (by rfl) (by rfl) (by rfl) (by rfl) (by rfl) hHc.2.row hkl2 ?_; have hPost := S2.append hHc HL.out hkl2 hkb1)
               | (go_at_call 48; have hHz := ‹_ ∧ SS _ _ _ _ _ _›; refine (ZZFailures_lim hHz.2.ok hi).mono ?_; rintro e w' ⟨rfl, rfl⟩)
               | (go_at_call 49; have hHa := ‹_ ∧ SS _ _ _ _ _ _›; refine (ZZLastFailure_lim hHa.2.ok hi).mono ?_; rintro e w4 ⟨rfl, hb4⟩)
               | (go_at_call 50; have hHb := ‹_ ∧ SS _ _ _ _ _ _›; refine (ZZLastAttempt_lim hHb.2.ok hi).mono ?_; rintro e w5 ⟨rfl, hb5⟩)
               | (go_at_call 36; have hHz := ‹_ ∧ SS _ _ _ _ _ _›; refine (ZZInFlight_lim hHz.2.ok hi).mono ?_; rintro e w' ⟨rfl, rfl⟩))
      have hP := ‹_ ∧ RowOk _ _ _ _ _›
      clear hHc hHz hHa hHb hb4 hb5 HS0 hu hi49 hl32 h1c
      clear ‹World.rangeAt _ _ _ _ ∧ SS _ _ _ _ _ _›
      generalize World.setCells _ _ _ _ = WF at hP ⊢
      obtain ⟨hP1, hP2⟩ := hP
      have HP1 : Hid _ := hP1.2
      have HP2 : Hid _ := hP2
      clear hP1 hP2 HRow HBel HLr
      have hNx : Calls Try.prog 51 #[Ptr (D.E i)] WF fun e w' => e = .returned (elOr D.E l2.head?) ∧ w' = WF := by
        have := HP1.out.ok
        rw [HO.out] at this
        exact ZZNext_lim this
      clear hPost hHz
      go_wp2_with fail
      refine hNx.mono ?_
      rintro e w'' ⟨rfl, rfl⟩
      clear hNx
      generalize hev : elOr D.E l2.head? = ev
      have HEV : Hid (elOr D.E l2.head? = ev) := hev
      clear hev
      go_wp2
      go_roundw
      case rel => exact ⟨l1 ++ [i], l2, by rw [HO.out]; simp, by simp, by rw [← HEV.out]; exact elIs_of _ _, by simp, HP2.out, HP1.out.bel⟩
      case measure => simp [intOf] at hlen ⊢; omega
end Go.Proofs.Qxb6612554a
