import Derived.Test.Qxb6612554aPushA
namespace Go.Proofs.Qxb6612554a
open Go.ChangeShapes Go.WideShapes Go.ChangeAt Go.RowKit
set_option linter.unusedVariables false
attribute [local go_sem ↓] Go.wp_at_zero Go.wp_at_succ
attribute [local go_sem ↓] exec_build94

set_option maxRecDepth 20000 in
set_option maxHeartbeats 1600000 in
/-- 'ZZPush' -/
theorem ZZPush_lim {w : World} {D : LD} {ord : List Nat} (h : Lim w D ord) (hn : D.n < 16384) (r : Rec) (hr : r.ok) :
    Calls Try.prog 39 #[Ptr D.bl, kv D.n, .int .i64 r.f, .int .i64 r.lf, .int .i64 r.la, .int .i64 r.fl] w fun e w' => ∃ b nb : Nat, e = .returned (Ptr b) ∧ Lim w' (D.snoc b nb r) (ord ++ [D.n]) ∧ Fr D.blk w w' := by
  have HR : Hid r.ok := hr
  obtain ⟨f, lf, la, fl⟩ := r
  obtain ⟨hf, hlf, hla, hfl⟩ := hr
  simp only at hf hlf hla hfl ⊢
  have HL : Hid (Lim w D ord) := h
  have h1 : Lim (w.alloc (.cells (kl D.n).toArray 49)) D ord := h.below ((Below.refl _ _).alloc (Nat.le_refl _) _)
  have H0 : Hid (PS D w.heap.size D.n (w.alloc (.cells (kl D.n).toArray 49)).drew) := by
    have h'' := h1.sim (Sim.drew _)
    exact ⟨h''.c4, range_of_block (heap_alloc_new w _)⟩
  have hts := tm_size
  have tok1 : True := trivial
  clear h h1
  generalize hi : D.n = i at *
  have HI : Hid (D.n = i) := hi
  clear hi
  go_enter Try.func39, Try.ntmps39
  go_wp2
  have hu := Try.underlying49
  have hi49 : (Try.prog.info? 49).map (·.size) = some (kl i).length := by rw [kl_length]; exact size49
  have hl32 := kl_length i
  have h1c := kl_one i
  go_region_held3 (fun w' => w'.cell? ⟨D.bl, 4, none⟩ = some (Ptr D.bL) ∧ w'.rangeAt w.heap.size 0 (kl i))
    (first | exact H0.out | exact PS.step hHoldA hbA | exact PS.step hHoldB hbB | (have hh := ‹_ ∧ World.rangeAt _ _ _ _›; exact PS.box hh _) | exact PS.push HL.out hHoldC hF)
    (first | (go_at_call 41; have _t := tok1; have hHoldA := ‹_ ∧ World.rangeAt _ _ _ _›; refine (add_any _ hlf _).mono ?_; rintro e w1 ⟨rfl, hbA⟩; clear tok1)
           | (go_at_call 41; have hHoldB := ‹_ ∧ World.rangeAt _ _ _ _›; refine (add_any _ hla _).mono ?_; rintro e w2 ⟨rfl, hbB⟩)
           | (go_at_call 56; have hHoldC := ‹_ ∧ World.rangeAt _ _ _ _›; refine (PushBack_lst (HL.out.below (chain3 hbA hbB).1).lst (by have := HI.out; omega) _).mono ?_; rintro e w3 ⟨rfl, hL, hF, hs⟩))
  have hRange := ‹_ ∧ World.rangeAt _ _ _ _›.2
  have hX : (kl i ++ [Value.int IntKind.i64 f]).toArray ++ (tm lf ++ ((tm la).push (Value.int IntKind.i64 fl)).push (Value.slice none 0 0)) = (entC i ⟨f, lf, la, fl⟩).toArray := by
    simp [entC, entT, tm]
  rw [hX] at hL hF hs
  have hsz : (w2.alloc (.cells (entC i ⟨f, lf, la, fl⟩).toArray 94)).heap.size = w2.heap.size + 1 := by simp
  have fin : ∃ es ck, (Instr.mapUpdate 88 (.map (some D.bm)) (kv i) (Ptr (w2.heap.size + 1))).run Try.prog w3.drew = .ok () (ChangeMaps.setBlock w3.drew D.bm (.map es ck)) ∧
      Lim (ChangeMaps.setBlock w3.drew D.bm (.map es ck)) (D.snoc (w2.heap.size + 1) w2.heap.size ⟨f, lf, la, fl⟩) (ord ++ [i]) ∧ Fr D.blk w (ChangeMaps.setBlock w3.drew D.bm (.map es ck)) ∧
      (w3.drew.cell? ⟨D.bl, 3, none⟩ = some (.map (some D.bm)) ∧ w3.drew.rangeAt w.heap.size 0 (kl i)) ∧
      ((ChangeMaps.setBlock w3.drew D.bm (.map es ck)).cell? ⟨D.bl, 3, none⟩ = some (.map (some D.bm)) ∧ (ChangeMaps.setBlock w3.drew D.bm (.map es ck)).rangeAt w.heap.size 0 (kl i)) := by
    have hI := HI.out
    subst hI
    have hch := chain3 (o' := .cells (entC D.n ⟨f, lf, la, fl⟩).toArray 94) hbA hbB
    have h3 := HL.out.below hch.1
    have hdr := Fr.of_sim (Sim.drew w3) (LB D.bL D.E D.n)
    have hnb : ¬ D.blk w2.heap.size := fun hb => by have := HL.out.blk_lt hb; omega
    have hB : D.B ≤ w2.heap.size := by have := HL.out.top; omega
    obtain ⟨es, ck, hrun, hLim, hFr⟩ := h3.pushed hn HR.out (heap_alloc_new _ _) hnb hB (hL.sim (Sim.drew w3)) (hF.trans hdr) (by simpa using hs)
    rw [hsz] at hrun hLim
    refine ⟨es, ck, hrun, hLim, ?_, ⟨?_, hRange⟩, ?_, ?_⟩
    · exact (Fr.of_below hch.1 _ (fun k hk hle => by omega)).trans hFr
    · have := (h3.mid (hF.trans hdr)).1
      exact cell_of_block this 3
    · exact hLim.c3
    · intro j v hv
      have hk := hRange j v hv
      have hset : Fr (fun k => k = D.bm) w3.drew (ChangeMaps.setBlock w3.drew D.bm (.map es ck)) := Fr.setBlock (S := fun k => k = D.bm) w3.drew rfl _
      refine cell_fr hset (w := w3.drew) hk ?_
      intro e
      have := HL.out.blk_lt (Or.inr (Or.inl rfl))
      have e' : w.heap.size = D.bm := e
      omega
  obtain ⟨es, ck, hupd, hLim, hBel, hS0, hS1⟩ := fin
  have HLim : Hid _ := hLim
  have HBel : Hid _ := hBel
  have H2 : Hid _ := hS0
  have H3 : Hid _ := hS1
  clear hLim hBel hS0 hS1 hL hF hs hsz hX hRange hHoldA hHoldB hHoldC HL H0 hbA hbB
  clear hu hi49 hl32 h1c
  go_wp2
  have hu := Try.underlying49
  have hi49 : (Try.prog.info? 49).map (·.size) = some (kl i).length := by rw [kl_length]; exact size49
  have hl32 := kl_length i
  have h1c := kl_one i
  go_region_held3 (fun w' => w'.cell? ⟨D.bl, 3, none⟩ = some (.map (some D.bm)) ∧ w'.rangeAt w.heap.size 0 (kl i))
    (first | exact H2.out | exact H3.out) (fail)
  clear hu hi49 hl32 h1c
  go_wp2
  go_ret
  exact ⟨_, w2.heap.size, rfl, HLim.out, HBel.out⟩
end Go.Proofs.Qxb6612554a
