import Derived.Test.Qxb6602344aBytes
namespace Go.Proofs.Qxb6602344a
open Go.ChangeShapes Go.WideShapes Go.ChangeAt Go.RowKit
set_option linter.unusedVariables false
set_option linter.unusedSimpArgs false

theorem results_tmp4 {fn : Func} {t u v x : Tmp} (h : fn.results = #[.tmp t, .tmp u, .tmp v, .tmp x]) (tmps : Array Value) (P : Program) (w : World) :
    (results fn tmps).run P w = .ok (.tuple #[tmps.getD t undef, tmps.getD u undef, tmps.getD v undef, tmps.getD x undef]) w := by
  simp [results, h]
theorem info9 : (Try.prog.info? 9).map (fun i => (i.zero, i.size, i.bytes)) = some (some (.string ⟨#[]⟩), 1, 16) := by kernel_rfl
theorem info4 : (Try.prog.info? 4).map (fun i => (i.zero, i.size, i.bytes)) = some (some (.bool false), 1, 1) := by kernel_rfl
theorem info52 : (Try.prog.info? 52).map (fun i => (i.zero, i.size, i.bytes)) = some (some (.agg #[.string ⟨#[]⟩, .string ⟨#[]⟩, .string ⟨#[]⟩, .bool false]), 4, 56) := by kernel_rfl
theorem make_blk {T e : TypeId} {z : Value} {size bytes : Nat} (ht : Try.prog.underlying T = some (.slice e)) (hi : (Try.prog.info? e).map (fun i => (i.zero, i.size, i.bytes)) = some (some z, size, bytes)) (hb : bytes ≤ 1000) (hzs : 0 < z.cells.size) (n : Nat) (hn : n ≤ 100000) (w : World) :
    ∃ cs : Array Value, cs.size = n * size ∧ (Instr.makeSlice T (.int .i64 n) (.int .i64 n)).run Try.prog w = .ok (.slice (some ⟨w.heap.size, 0, none⟩) n n) (w.alloc (.cells cs e)) := by
  obtain ⟨i0, hi, hz0, hz1, hz2⟩ := info_parts hi
  have hm : bytes * n ≤ 1000 * 100000 := Nat.mul_le_mul hb hn
  have hmI : (bytes : Int) * n ≤ 281474976710656 := Int.le_trans (by have := Int.ofNat_le.2 hm; rwa [Int.natCast_mul] at this) (by decide)
  have := run_make (P := Try.prog) w T e i0 z ht hi hz0 .i64 .i64 n n (by omega) (by omega) (by rw [hz2]; exact hmI) (by omega)
  rw [hz1] at this
  exact ⟨madeCells z.cells ((n : Int).toNat * size), by simp [size_madeCells], this⟩

set_option maxRecDepth 20000 in
set_option maxHeartbeats 2000000 in
theorem cloneStr_any (w : World) (a : Option Addr) (n c : Nat) (S : Nat → ByteArray) (hn : n ≤ 65536) (ha : StrV w a n S) (hnil : a = none → n = 0 ∧ c = 0) :
    Calls Try.prog 9 #[.slice a n c] w fun e w' => ∃ a', e = .returned (.slice a' n n) ∧ StrV w' a' n S ∧ Below w.heap.size w w' := by
  cases a with
  | none =>
    obtain ⟨rfl, rfl⟩ := hnil rfl
    clear hnil
    have hnl : (binOp .eql 23 (.slice none 0 0) (.slice none 0 0)).run Try.prog w = .ok (.bool true) w := Lib.run_eql_slice_nil w 23 9 none 0 0 0 0 Try.underlying23
    go_enter Try.func9, Try.ntmps9
    go_wp2
    go_ret
    exact ⟨none, rfl, ha, Below.refl _ _⟩
  | some x =>
    obtain ⟨cs, hcs, hmk⟩ := make_blk Try.underlying23 info9 (by decide) (by decide) n (by omega) w
    have hnl : (binOp .eql 23 (.slice (some x) n c) (.slice none 0 0)).run Try.prog w = .ok (.bool false) w := Lib.run_eql_slice_nil w 23 9 (some x) n c 0 0 Try.underlying23
    have HR0 : Hid (Blk (w.alloc (.cells cs 9)) w.heap.size 9 (n * 1)) := ⟨cs, heap_alloc_new w _, hcs⟩
    have HBW : Hid (Below w.heap.size w (w.alloc (.cells cs 9))) := (Below.refl _ _).alloc (Nat.le_refl _) _
    have HA : Hid (StrV w (some x) n S) := ha
    clear ha hnil hcs
    go_enter Try.func9, Try.ntmps9
    go_wp2
    clear hmk hnl
    generalize hq : w.heap.size = q at *
    go_loopw [4] (fun t wr => ∃ k : Nat, k ≤ n ∧ t = .int .i64 k ∧ Blk wr q 9 (n * 1) ∧ (∀ i, i < k → wr.cell? ⟨q, i, none⟩ = some (.string (S i))) ∧ Below q w wr) (fun t _ => n - (intOf t).toNat)
    case atStart => exact ⟨0, Nat.zero_le _, rfl, HR0.out, fun i hi => by omega, HBW.out⟩
    case round =>
      obtain ⟨k, hk, rfl, hblk, hdone, hbx⟩ := hrel
      have HBX : Hid (Below q w wr) := hbx
      have HD : Hid _ := hdone
      have HBl : Hid (Blk wr q 9 (n * 1)) := hblk
      clear hdone
      by_cases hlt : k < n
      · obtain ⟨b, off, hx, hxc⟩ := HA.out (by omega)
        cases hx
        have hbx' : Below w.heap.size w wr := by rw [hq]; exact hbx
        have c1 : wr.cell? ⟨b, off + k, none⟩ = some (.string (S k)) := cell_later hbx' (hxc k hlt)
        obtain ⟨v0, c2⟩ := hblk.there (o := k) (by omega)
        have f2 := hblk.fz k
        have hkI : (k : Int) < n := by omega
        clear hbx hbx' HR0 HBW hxc hblk
        go_wp2
        go_roundw
        case rel =>
          refine ⟨k + 1, by omega, by go_num, Blk.set HBl.out _, fun i hi => ?_, HBX.out.setCell (Nat.le_refl _) _⟩
          have hB : Blk wr q 9 (n * 1) := HBl.out
          by_cases e : i = k
          · subst e
            exact hB.cell_set _ (by omega)
          · rw [cell_set_ne _ _ e]
            exact HD.out i (by omega)
        case measure => simp [intOf]; omega
      · obtain rfl : k = n := by omega
        clear hbx hblk
        go_wp2
        go_ret
        subst hq
        refine ⟨_, rfl, fun _ => ⟨_, 0, rfl, fun i hi => ?_⟩, HBX.out⟩
        have := HD.out i hi
        simpa using this

set_option maxRecDepth 20000 in
set_option maxHeartbeats 2000000 in
theorem cloneGr_any (w : World) (a : Option Addr) (n c : Nat) (S : Nat → Gr) (hn : n ≤ 65536) (ha : GrV w a n S) (hnil : a = none → n = 0 ∧ c = 0) :
    Calls Try.prog 8 #[.slice a n c] w fun e w' => ∃ a', e = .returned (.slice a' n n) ∧ GrV w' a' n S ∧ Below w.heap.size w w' := by
  cases a with
  | none =>
    obtain ⟨rfl, rfl⟩ := hnil rfl
    clear hnil
    have hnl : (binOp .eql 22 (.slice none 0 0) (.slice none 0 0)).run Try.prog w = .ok (.bool true) w := Lib.run_eql_slice_nil w 22 52 none 0 0 0 0 Try.underlying22
    go_enter Try.func8, Try.ntmps8
    go_wp2
    go_ret
    exact ⟨none, rfl, ha, Below.refl _ _⟩
  | some x =>
    obtain ⟨cs, hcs, hmk⟩ := make_blk Try.underlying22 info52 (by decide) (by decide) n (by omega) w
    have hnl : (binOp .eql 22 (.slice (some x) n c) (.slice none 0 0)).run Try.prog w = .ok (.bool false) w := Lib.run_eql_slice_nil w 22 52 (some x) n c 0 0 Try.underlying22
    have HR0 : Hid (Blk (w.alloc (.cells cs 52)) w.heap.size 52 (n * 4)) := ⟨cs, heap_alloc_new w _, hcs⟩
    have HBW : Hid (Below w.heap.size w (w.alloc (.cells cs 52))) := (Below.refl _ _).alloc (Nat.le_refl _) _
    have HA : Hid (GrV w (some x) n S) := ha
    clear ha hnil hcs
    go_enter Try.func8, Try.ntmps8
    go_wp2
    clear hmk hnl
    generalize hq : w.heap.size = q at *
    go_loopw [4] (fun t wr => ∃ k : Nat, k ≤ n ∧ t = .int .i64 k ∧ Blk wr q 52 (n * 4) ∧ (∀ i, i < k → wr.cell? ⟨q, i * 4, none⟩ = some (.string (S i).g) ∧ wr.cell? ⟨q, i * 4 + 1, none⟩ = some (.string (S i).p) ∧ wr.cell? ⟨q, i * 4 + 2, none⟩ = some (.string (S i).o) ∧ wr.cell? ⟨q, i * 4 + 3, none⟩ = some (.bool (S i).t)) ∧ Below q w wr) (fun t _ => n - (intOf t).toNat)
    case atStart => exact ⟨0, Nat.zero_le _, rfl, HR0.out, fun i hi => by omega, HBW.out⟩
    case round =>
      obtain ⟨k, hk, rfl, hblk, hdone, hbx⟩ := hrel
      have HBX : Hid (Below q w wr) := hbx
      have HD : Hid _ := hdone
      have HBl : Hid (Blk wr q 52 (n * 4)) := hblk
      clear hdone
      by_cases hlt : k < n
      · obtain ⟨b, off, hx, hxc⟩ := HA.out (by omega)
        cases hx
        have hbx' : Below w.heap.size w wr := by rw [hq]; exact hbx
        obtain ⟨s0, s1, s2, s3⟩ := hxc k hlt
        have s0' := cell_later hbx' s0
        have s1' := cell_later hbx' s1
        have s2' := cell_later hbx' s2
        have s3' := cell_later hbx' s3
        obtain ⟨v0, d0⟩ := hblk.there (o := k * 4) (by omega)
        obtain ⟨v1, d1⟩ := hblk.there (o := k * 4 + 1) (by omega)
        obtain ⟨v2, d2⟩ := hblk.there (o := k * 4 + 2) (by omega)
        obtain ⟨v3, d3⟩ := hblk.there (o := k * 4 + 3) (by omega)
        have f0 := hblk.fz (k * 4)
        have f1 := hblk.fz (k * 4 + 1)
        have f2 := hblk.fz (k * 4 + 2)
        have f3 := hblk.fz (k * 4 + 3)
        clear s0 s1 s2 s3
        have hkI : (k : Int) < n := by omega
        clear hbx hbx' HR0 HBW hxc hblk
        go_wp2
        go_roundw
        case rel =>
          refine ⟨k + 1, by omega, by go_num, (((Blk.set HBl.out _).set _).set _).set _, fun i hi => ?_, (((HBX.out.setCell (Nat.le_refl _) _).setCell (Nat.le_refl _) _).setCell (Nat.le_refl _) _).setCell (Nat.le_refl _) _⟩
          have hB : Blk wr q 52 (n * 4) := HBl.out
          by_cases e : i = k
          · subst e
            refine ⟨?_, ?_, ?_, ?_⟩
            · rw [cell_set_ne _ _ (by omega), cell_set_ne _ _ (by omega), cell_set_ne _ _ (by omega)]
              exact hB.cell_set _ (by omega)
            · rw [cell_set_ne _ _ (by omega), cell_set_ne _ _ (by omega)]
              exact (hB.set _).cell_set _ (by omega)
            · rw [cell_set_ne _ _ (by omega)]
              exact ((hB.set _).set _).cell_set _ (by omega)
            · exact (((hB.set _).set _).set _).cell_set _ (by omega)
          · rw [cell_set_ne _ _ (by omega), cell_set_ne _ _ (by omega), cell_set_ne _ _ (by omega), cell_set_ne _ _ (by omega), cell_set_ne _ _ (by omega), cell_set_ne _ _ (by omega), cell_set_ne _ _ (by omega), cell_set_ne _ _ (by omega), cell_set_ne _ _ (by omega), cell_set_ne _ _ (by omega), cell_set_ne _ _ (by omega), cell_set_ne _ _ (by omega), cell_set_ne _ _ (by omega), cell_set_ne _ _ (by omega), cell_set_ne _ _ (by omega), cell_set_ne _ _ (by omega)]
            exact HD.out i (by omega)
        case measure => simp [intOf]; omega
      · obtain rfl : k = n := by omega
        clear hbx hblk
        go_wp2
        go_ret
        subst hq
        refine ⟨_, rfl, fun _ => ⟨_, 0, rfl, fun i hi => ?_⟩, HBX.out⟩
        have := HD.out i hi
        simpa using this

/-- A slice of bools. -/
def BoolV (w : World) (a : Option Addr) (n : Nat) (S : Nat → Bool) : Prop := 0 < n → ∃ b off, a = some ⟨b, off, none⟩ ∧ ∀ i, i < n → w.cell? ⟨b, off + i, none⟩ = some (.bool (S i))
/-- The four rows of a split. -/
structure Sp (w wr : World) (q n k : Nat) (S : Nat → Gr) : Prop where
  b0 : Blk wr q 9 n
  b1 : Blk wr (q + 1) 9 n
  b2 : Blk wr (q + 2) 9 n
  b3 : Blk wr (q + 3) 4 n
  d0 : ∀ i, i < k → wr.cell? ⟨q, i, none⟩ = some (.string (S i).g)
  d1 : ∀ i, i < k → wr.cell? ⟨q + 1, i, none⟩ = some (.string (S i).p)
  d2 : ∀ i, i < k → wr.cell? ⟨q + 2, i, none⟩ = some (.string (S i).o)
  d3 : ∀ i, i < k → wr.cell? ⟨q + 3, i, none⟩ = some (.bool (S i).t)
  bel : Below q w wr
theorem Sp.step {w wr : World} {q n k : Nat} {S : Nat → Gr} (h : Sp w wr q n k S) (hk : k < n) :
    Sp w ((((wr.setCell ⟨q, k, none⟩ (.string (S k).g)).setCell ⟨q + 1, k, none⟩ (.string (S k).p)).setCell ⟨q + 2, k, none⟩ (.string (S k).o)).setCell ⟨q + 3, k, none⟩ (.bool (S k).t)) q n (k + 1) S := by
  refine ⟨(((h.b0.set _).far _ (by omega)).far _ (by omega)).far _ (by omega), (((h.b1.far _ (by omega)).set _).far _ (by omega)).far _ (by omega), (((h.b2.far _ (by omega)).far _ (by omega)).set _).far _ (by omega), (((h.b3.far _ (by omega)).far _ (by omega)).far _ (by omega)).set _, fun i hi => ?_, fun i hi => ?_, fun i hi => ?_, fun i hi => ?_, ?_⟩
  · rw [cell_set_far _ _ (by omega), cell_set_far _ _ (by omega), cell_set_far _ _ (by omega)]
    by_cases e : i = k
    · subst e; exact h.b0.cell_set _ hk
    · rw [cell_set_ne _ _ e]; exact h.d0 i (by omega)
  · rw [cell_set_far _ _ (by omega), cell_set_far _ _ (by omega)]
    by_cases e : i = k
    · subst e; exact (h.b1.far _ (by omega)).cell_set _ hk
    · rw [cell_set_ne _ _ e, cell_set_far _ _ (by omega)]; exact h.d1 i (by omega)
  · rw [cell_set_far _ _ (by omega)]
    by_cases e : i = k
    · subst e; exact ((h.b2.far _ (by omega)).far _ (by omega)).cell_set _ hk
    · rw [cell_set_ne _ _ e, cell_set_far _ _ (by omega), cell_set_far _ _ (by omega)]; exact h.d2 i (by omega)
  · by_cases e : i = k
    · subst e; exact (((h.b3.far _ (by omega)).far _ (by omega)).far _ (by omega)).cell_set _ hk
    · rw [cell_set_ne _ _ e, cell_set_far _ _ (by omega), cell_set_far _ _ (by omega), cell_set_far _ _ (by omega)]; exact h.d3 i (by omega)
  · exact (((h.bel.setCell (show q ≤ q by omega) _).setCell (show q ≤ q + 1 by omega) _).setCell (show q ≤ q + 2 by omega) _).setCell (show q ≤ q + 3 by omega) _

set_option maxRecDepth 20000 in
set_option maxHeartbeats 2000000 in
theorem split_any (w : World) (a : Option Addr) (n c : Nat) (S : Nat → Gr) (hn : n ≤ 65536) (ha : GrV w a n S) :
    Calls Try.prog 10 #[.slice a n c] w fun e w' => ∃ a0 a1 a2 a3, e = .returned (.tuple #[.slice a0 n n, .slice a1 n n, .slice a2 n n, .slice a3 n n]) ∧ StrV w' a0 n (fun i => (S i).g) ∧ StrV w' a1 n (fun i => (S i).p) ∧ StrV w' a2 n (fun i => (S i).o) ∧ BoolV w' a3 n (fun i => (S i).t) ∧ Below w.heap.size w w' := by
  obtain ⟨c0, hc0, mk0⟩ := make_blk Try.underlying23 info9 (by decide) (by decide) n (by omega) w
  obtain ⟨c1, hc1, mk1⟩ := make_blk Try.underlying23 info9 (by decide) (by decide) n (by omega) (w.alloc (.cells c0 9))
  obtain ⟨c2, hc2, mk2⟩ := make_blk Try.underlying23 info9 (by decide) (by decide) n (by omega) ((w.alloc (.cells c0 9)).alloc (.cells c1 9))
  obtain ⟨c3, hc3, mk3⟩ := make_blk Try.underlying27 info4 (by decide) (by decide) n (by omega) (((w.alloc (.cells c0 9)).alloc (.cells c1 9)).alloc (.cells c2 9))
  simp only [World.size_alloc] at mk1 mk2 mk3
  have HS : Hid (Sp w ((((w.alloc (.cells c0 9)).alloc (.cells c1 9)).alloc (.cells c2 9)).alloc (.cells c3 4)) w.heap.size n 0 S) := by
    have hb : ∀ (W : World) (o : Obj) (g : Nat) (t : TypeId) (N : Nat), Blk W g t N → Blk (W.alloc o) g t N := fun W o g t N h => h.same (Below.heap_alloc _ _ _ h.lt)
    have hnew : ∀ (W : World) (cs : Array Value) (t : TypeId) (N g : Nat), cs.size = N → g = W.heap.size → Blk (W.alloc (.cells cs t)) g t N := fun W cs t N g h1 h2 => ⟨cs, by rw [h2]; exact heap_alloc_new W _, h1⟩
    refine ⟨hb _ _ _ _ _ (hb _ _ _ _ _ (hb _ _ _ _ _ (hnew _ _ _ _ _ (by omega) rfl))), hb _ _ _ _ _ (hb _ _ _ _ _ (hnew _ _ _ _ _ (by omega) (by simp))), hb _ _ _ _ _ (hnew _ _ _ _ _ (by omega) (by simp)), hnew _ _ _ _ _ (by omega) (by simp), fun i hi => by omega, fun i hi => by omega, fun i hi => by omega, fun i hi => by omega, ?_⟩
    exact ((((Below.refl _ _).alloc (Nat.le_refl _) _).alloc (by simp only [World.size_alloc]; omega) _).alloc (by simp only [World.size_alloc]; omega) _).alloc (by simp only [World.size_alloc]; omega) _
  have HA : Hid (GrV w a n S) := ha
  clear ha hc0 hc1 hc2 hc3
  go_enter Try.func10, Try.ntmps10
  go_wp2
  clear mk0 mk1 mk2 mk3
  generalize hq : w.heap.size = q at *
  go_loopw [10] (fun t wr => ∃ k : Nat, k ≤ n ∧ t = .int .i64 k ∧ Sp w wr q n k S) (fun t _ => n - (intOf t).toNat)
  case atStart => exact ⟨0, Nat.zero_le _, rfl, HS.out⟩
  case round =>
    obtain ⟨k, hk, rfl, hsp⟩ := hrel
    have HSp : Hid (Sp w wr q n k S) := hsp
    by_cases hlt : k < n
    · obtain ⟨b, off, rfl, hxc⟩ := HA.out (by omega)
      have hbx' : Below w.heap.size w wr := by rw [hq]; exact hsp.bel
      obtain ⟨s0, s1, s2, s3⟩ := hxc k hlt
      have hbq : b < q := by
        by_cases h : b < q
        · exact h
        · exfalso
          have : w.heap[b]? = none := by simp; omega
          simp [World.cell?, this] at s0
      have s0' := cell_later hbx' s0
      have s1' := cell_later hbx' s1
      have s2' := cell_later hbx' s2
      have s3' := cell_later hbx' s3
      obtain ⟨v0, d0⟩ := hsp.b0.there hlt
      obtain ⟨v1, d1⟩ := hsp.b1.there hlt
      obtain ⟨v2, d2⟩ := hsp.b2.there hlt
      obtain ⟨v3, d3⟩ := hsp.b3.there hlt
      have f0 := hsp.b0.fz k
      have f1 := hsp.b1.fz k
      have f2 := hsp.b2.fz k
      have f3 := hsp.b3.fz k
      have hkI : (k : Int) < n := by omega
      have n0 : ¬ b = q := by omega
      have n1 : ¬ b = q + 1 := by omega
      have n2 : ¬ b = q + 2 := by omega
      have n3 : ¬ b = q + 3 := by omega
      clear s0 s1 s2 s3 hbx' hxc hsp HS
      go_wp2
      go_roundw
      case rel => exact ⟨k + 1, by omega, by go_num, HSp.out.step hlt⟩
      case measure => simp [intOf]; omega
    · obtain rfl : k = n := by omega
      clear hsp
      go_wp2
      (try simp only [Exit.inBlock, Exit.then])
      refine bodyPost_ret (results_tmp4 rfl _ _ _) rfl ?_
      have h := HSp.out
      subst hq
      exact ⟨_, _, _, _, rfl, fun _ => ⟨_, 0, rfl, fun i hi => by simpa using h.d0 i hi⟩, fun _ => ⟨_, 0, rfl, fun i hi => by simpa using h.d1 i hi⟩, fun _ => ⟨_, 0, rfl, fun i hi => by simpa using h.d2 i hi⟩, fun _ => ⟨_, 0, rfl, fun i hi => by simpa using h.d3 i hi⟩, h.bel⟩
end Go.Proofs.Qxb6602344a
