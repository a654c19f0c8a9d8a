import Derived.Test.Qxb6612554aSnap
namespace Go.Proofs.Qxb6612554a
open Go.ChangeShapes Go.WideShapes Go.ChangeAt Go.RowKit
set_option linter.unusedVariables false
attribute [local go_sem ↓] Go.wp_at_zero Go.wp_at_succ

theorem size51 : (Try.prog.info? 51).map (·.size) = some 36 := by kernel_rfl
/-- A record stored into a variable that was just made. -/
theorem wpList_store_fresh51 {ops : Array Oper} {rest : List Oper} {op : Oper} {a : Act} {w1 W : World} {c : Array Value} {Q : Exit → Act → World → Prop} {cs : List Value} (hgd : op.guard = none) (x y : Operand) (ho : op.op = .store 51 x y) (hW : W = w1.alloc (.cells c 51))
    (bx : Nat) (hbx : bx = w1.heap.size) (hx : a.eval x = .pointer (some ⟨bx, 0, none⟩)) (hy : a.eval y = .agg cs.toArray) (hc : c.size = 36) (hcs : cs.length = 36) (h1 : ∀ v ∈ cs, v.oneCell' = true)
    (h : ∀ W2, Below w1.heap.size w1 W2 → W2.rangeAt bx 0 cs → bx < W2.heap.size → wpList Try.prog ops Q rest (a.put op.dst undef) W2) : wpList Try.prog ops Q (op :: rest) a W := by
  subst hbx
  subst hW
  have hsz : cs.toArray.size = 36 := by rw [List.size_toArray, hcs]
  have ht : (w1.alloc (.cells c 51)).there w1.heap.size 0 cs.toArray.size := by rw [hsz]; exact there_alloc _ (by omega)
  refine wpList_store_mid hgd 51 x y ho w1.heap.size 0 cs.toArray hx hy ht (by rw [hsz]; exact size51) (all_oneCell_toArray h1) ?_
  have hb : Below w1.heap.size w1 ((w1.alloc (.cells c 51)).setCells w1.heap.size 0 cs) := below_setCells ((Below.refl _ _).alloc (Nat.le_refl _) _) (Nat.le_refl _) _ _
  refine h _ hb (World.rangeAt_setCells_same _ _ _ _ (by rw [hsz] at ht; rw [hcs]; exact ht)) ?_
  have h1 : Fr (fun k => k = w1.heap.size) (w1.alloc (.cells c 51)) ((w1.alloc (.cells c 51)).setCells w1.heap.size 0 cs) := Fr.setCells (S := fun k => k = w1.heap.size) _ _ _ rfl
  have h2 := h1.size
  rw [World.size_alloc] at h2
  exact h2

/-- A slice of places. -/
def WantV (w : World) (a : Option Addr) (L : List Nat) : Prop := 0 < L.length → ∃ b off, a = some ⟨b, off, none⟩ ∧ ∀ k i : Nat, L[k]? = some i → w.cell? ⟨b, off + k, none⟩ = some (.int .i64 i)
theorem WantV.later {w w' : World} {a : Option Addr} {L : List Nat} (h : WantV w a L) (hb : Below w.heap.size w w') : WantV w' a L := by
  intro h0
  obtain ⟨b, off, rfl, hc⟩ := h h0
  exact ⟨b, off, rfl, fun k i hk => cell_later hb (hc k i hk)⟩
theorem EsV.later {w w' : World} {a : Option Addr} {n : Nat} {R : Nat → Rec} (h : EsV w a n R) (hb : Below w.heap.size w w') : EsV w' a n R := by
  intro h0
  obtain ⟨b, off, rfl, hc⟩ := h h0
  exact ⟨b, off, rfl, fun i hi => ⟨cell_later hb (hc i hi).1, cell_later hb (hc i hi).2.1, cell_later hb (hc i hi).2.2.1, cell_later hb (hc i hi).2.2.2⟩⟩

theorem keyAt49 : Try.prog.keyTypeAt 3 49 = true := by kernel_rfl
/-- A key against itself. -/
theorem neq49_same (i : Nat) (W : World) : (binOp .neq 49 (.agg (kl i).toArray) (.agg (kl i).toArray)).run Try.prog W = .ok (.bool false) W := by
  obtain ⟨l, hl⟩ := key_ok i
  obtain ⟨r, hr, hiff⟩ := run_equal_deep W (m := 3) (by omega) keyAt49 (by rw [Try.underlying49]) hl hl
  have : r = true := hiff.2 rfl
  subst this
  simp only [binOp]
  simp [hr]

theorem rec_get (j : Nat) (r : Rec) (t : Nat) (v : Value) (h : [Value.int .i64 r.f, .int .i64 r.lf, .int .i64 r.la, .int .i64 r.fl][t]? = some v) : (recC j r)[32 + t]? = some v := by
  unfold recC
  rw [List.getElem?_append_right (by rw [kl_length]; omega), kl_length]
  have : 32 + t - 32 = t := by omega
  rw [this]
  exact h
/-- The two copies of a round. -/
abbrev MS (gb eb j : Nat) (r : Rec) (w' : World) : Prop := w'.rangeAt gb 0 (kl j) ∧ w'.cell? ⟨gb, 32, none⟩ = some (.int .i64 r.f) ∧ w'.cell? ⟨gb, 33, none⟩ = some (.int .i64 r.lf) ∧ w'.cell? ⟨gb, 34, none⟩ = some (.int .i64 r.la) ∧ w'.cell? ⟨gb, 35, none⟩ = some (.int .i64 r.fl) ∧
  w'.cell? ⟨eb, 0, none⟩ = some (.int .i64 r.f) ∧ w'.cell? ⟨eb, 1, none⟩ = some (.int .i64 r.lf) ∧ w'.cell? ⟨eb, 2, none⟩ = some (.int .i64 r.la) ∧ w'.cell? ⟨eb, 3, none⟩ = some (.int .i64 r.fl)
theorem MS.step {gb eb j : Nat} {r : Rec} {w1 w2 : World} (h : MS gb eb j r w1) (hb : Below w1.heap.size w1 w2) : MS gb eb j r w2 :=
  ⟨range_later hb h.1, cell_later hb h.2.1, cell_later hb h.2.2.1, cell_later hb h.2.2.2.1, cell_later hb h.2.2.2.2.1, cell_later hb h.2.2.2.2.2.1, cell_later hb h.2.2.2.2.2.2.1, cell_later hb h.2.2.2.2.2.2.2.1, cell_later hb h.2.2.2.2.2.2.2.2⟩

set_option maxRecDepth 20000 in
set_option maxHeartbeats 3200000 in
/-- 'matches(l, want, exp)': the Limiter holds just those, in that order -/
theorem matches_any {w : World} {D : LD} {ord : List Nat} (h : Lim w D ord) (wa ea : Option Addr) (wcap m ecap : Nat) (X : Nat → Rec) (hw : WantV w wa ord) (he : EsV w ea m X) (hm : m ≤ 16384)
    (hX : ∀ i ∈ ord, i < m ∧ X i = D.fd i) :
    Calls Try.prog 16 #[Ptr D.bl, .slice wa ord.length wcap, .slice ea m ecap] w fun e w' => e = .returned (.bool true) ∧ Below w.heap.size w w' := by
  have hlo : ord.length ≤ 16384 := Nat.le_trans h.lst.len_le h.small
  have hS := snapshot_any h ord.length (Nat.le_refl _) (by omega)
  clear h
  go_enter Try.func16, Try.ntmps16
  go_wp2_with fail
  refine hS.mono ?_
  rintro e w0 ⟨rfl, hrow, hb0⟩
  have HRow : Hid (RowOk w.heap.size ord.length D.fd ord w0) := hrow
  have HB0 : Hid (Below w.heap.size w w0) := hb0
  have HW : Hid (WantV w0 wa ord) := hw.later hb0
  have HE : Hid (EsV w0 ea m X) := he.later hb0
  have HX : Hid _ := hX
  have HB0' : Hid (w.heap.size ≤ w0.heap.size) := hb0.size
  clear hS hrow hb0 hw he hX
  generalize hgb : w.heap.size = g at *
  have HG : Hid (w.heap.size = g) := hgb
  clear hgb
  go_wp2
  go_loopw [9] (fun t wr => ∃ k : Nat, k ≤ ord.length ∧ t = .int .i64 k ∧ Below w0.heap.size w0 wr) (fun t _ => ord.length - (intOf t).toNat)
  case atStart => exact ⟨0, Nat.zero_le _, rfl, Below.refl _ _⟩
  case round =>
    obtain ⟨k, hk, rfl, hbel⟩ := hrel
    have HBel : Hid (Below w0.heap.size w0 wr) := hbel
    by_cases hlt : k < ord.length
    · obtain ⟨j, hj⟩ : ∃ j, ord[k]? = some j := ⟨ord[k], List.getElem?_eq_getElem hlt⟩
      have hjo : j ∈ ord := List.mem_of_getElem? hj
      obtain ⟨hjm, hXj⟩ := HX.out j hjo
      obtain ⟨wb, woff, rfl, hwc⟩ := HW.out (by omega)
      obtain ⟨eb, eoff, rfl, hec⟩ := HE.out (by omega)
      have hc1 : wr.cell? ⟨wb, woff + k, none⟩ = some (.int .i64 (j : Int)) := cell_later hbel (hwc k j hj)
      obtain ⟨c0, c1, c2, c3⟩ := hec j hjm
      have c0' := cell_later hbel c0
      have c1' := cell_later hbel c1
      have c2' := cell_later hbel c2
      have c3' := cell_later hbel c3
      have HR : Hid (wr.rangeAt g (k * 36) (recC j (D.fd j))) := range_later hbel (HRow.out.get hj)
      have hkI : (k : Int) < ord.length := by omega
      have hjI : (j : Int) < m := by omega
      rw [hXj] at c0' c1' c2' c3'
      generalize D.fd j = r at *
      clear c0 c1 c2 c3 hec hwc hbel hXj hjo hj HRow HW HE HX
      go_wp2_with (first
        | (refine wpList_load_mid (by rfl) 51 (.tmp 45) (by rfl) g (k * 36) (by rfl) (recC j r) _ ?_ Try.underlying51 rfl (by rw [recC_length]; exact size51) ?_; exact range_alloc HR.out _)
        | (refine wpList_store_fresh51 (cs := recC j r) (by rfl) (.tmp 12) (.tmp 46) (by rfl) (by rfl) (wr.heap.size + 1) (by simp) (by rfl) (by rfl) (by rfl) (recC_length _ _) (recC_one _ _) ?_; intro W2 hb2 hr2 hs2; have HR2 : Hid _ := hr2; clear hr2))
      have hbW : Below wr.heap.size wr W2.drew := (((Below.refl _ _).alloc (Nat.le_refl _) _).trans (hb2.mono (by simp))).drew
      have HS0 : Hid (MS (wr.heap.size + 1) wr.heap.size j r W2.drew) := by
        have hg : ∀ t v, (recC j r)[t]? = some v → W2.drew.cell? ⟨wr.heap.size + 1, t, none⟩ = some v := fun t v hv => by
          have := HR2.out t v hv
          rwa [Nat.zero_add] at this
        have he : ∀ (o : Nat) (v : Value), (wr.alloc (.cells #[.int .i64 r.f, .int .i64 r.lf, .int .i64 r.la, .int .i64 r.fl] 40)).cell? ⟨wr.heap.size, o, none⟩ = some v → W2.drew.cell? ⟨wr.heap.size, o, none⟩ = some v := fun o v hv => cell_later hb2.drew hv
        refine ⟨fun t v hv => ?_, hg 32 _ (rec_get j r 0 _ rfl), hg 33 _ (rec_get j r 1 _ rfl), hg 34 _ (rec_get j r 2 _ rfl), hg 35 _ (rec_get j r 3 _ rfl), he 0 _ (by simp), he 1 _ (by simp), he 2 _ (by simp), he 3 _ (by simp)⟩
        rw [Nat.zero_add]
        refine hg t v ?_
        unfold recC
        rw [List.getElem?_append_left (List.getElem?_eq_some_iff.1 hv).1]
        exact hv
      have HBW : Hid _ := hbW
      have hnq := neq49_same j
      clear hb2 hs2 HR2 HR hc1 c0' c1' c2' c3' hbW
      have hu := Try.underlying49
      have hi49 : (Try.prog.info? 49).map (·.size) = some (kl j).length := by rw [kl_length]; exact size49
      have hl32 := kl_length j
      have h1c := kl_one j
      go_region_held3 (fun w' => w'.rangeAt (wr.heap.size + 1) 0 (kl j) ∧ w'.cell? ⟨wr.heap.size + 1, 32, none⟩ = some (.int .i64 r.f) ∧ w'.cell? ⟨wr.heap.size + 1, 33, none⟩ = some (.int .i64 r.lf) ∧ w'.cell? ⟨wr.heap.size + 1, 34, none⟩ = some (.int .i64 r.la) ∧ w'.cell? ⟨wr.heap.size + 1, 35, none⟩ = some (.int .i64 r.fl) ∧
            w'.cell? ⟨wr.heap.size, 0, none⟩ = some (.int .i64 r.f) ∧ w'.cell? ⟨wr.heap.size, 1, none⟩ = some (.int .i64 r.lf) ∧ w'.cell? ⟨wr.heap.size, 2, none⟩ = some (.int .i64 r.la) ∧ w'.cell? ⟨wr.heap.size, 3, none⟩ = some (.int .i64 r.fl))
        (first | exact HS0.out | assumption | exact MS.step hHa hb3)
        (first | (go_at_call 31; have hHa := ‹World.rangeAt _ _ _ _ ∧ _›; refine (keyOf_any j (by omega) _).mono ?_; rintro e w3 ⟨rfl, hb3⟩))
      have HN : Hid (Below w0.heap.size w0 w3) := by
        have h1 := HBel.out.trans (HBW.out.mono HBel.out.size)
        exact h1.trans (hb3.mono h1.size)
      clear hHa hb3 HS0 HBW hu hi49 hl32 h1c hnq
      clear ‹World.rangeAt _ _ _ _ ∧ _›
      go_wp2
      go_roundw
      case rel => exact ⟨k + 1, by omega, by go_num, HN.out⟩
      case measure => simp [intOf]; omega
    · clear hbel
      go_wp2
      go_ret
      exact ⟨rfl, by rw [HG.out]; exact HB0.out.trans (HBel.out.mono HB0'.out)⟩
end Go.Proofs.Qxb6612554a
