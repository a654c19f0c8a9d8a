import Derived.Test.Qxb6602344aHeld
namespace Go.Proofs.Qxb6602344a
open Go.ChangeShapes Go.WideShapes Go.ChangeAt Go.RowKit
open Classical
set_option linter.unusedVariables false
set_option linter.unusedSimpArgs false

theorem own_view {w : World} {base : Nat} {e : TypeId} {v : Value} {m : Nat} {xs : List Value} (h : w.ownsRow base e 1 v m xs) : ∃ a c, v = .slice a m c ∧ (0 < m → ∃ b, a = some ⟨b, 0, none⟩ ∧ ∀ i x, xs[i]? = some x → w.cell? ⟨b, 0 + i, none⟩ = some x) := by
  rcases h.2 with ⟨rfl, rfl⟩ | ⟨g, cap, cur, rfl, _⟩
  · exact ⟨none, 0, rfl, fun h => by omega⟩
  · refine ⟨_, cap, rfl, fun _ => ⟨g, rfl, fun i x hx => ?_⟩⟩
    have := h.cells (g := g) rfl i x hx
    rwa [Addr.add_mid] at this
/-- A slice of ints. -/
def IntV (w : World) (a : Option Addr) (n : Nat) (I : Nat → Nat) : Prop := 0 < n → ∃ b off, a = some ⟨b, off, none⟩ ∧ ∀ i, i < n → w.cell? ⟨b, off + i, none⟩ = some (.int .i64 (I i))

set_option maxRecDepth 20000 in
theorem rename_any (w : World) (x : ByteArray) : Calls Try.prog 19 #[.string x, .string ⟨#[]⟩, .string ⟨#[]⟩] w fun e w' => e = .returned (.string x) ∧ w' = w := by
  by_cases h : x.toList.isEmpty = true
  · have hx : x = ⟨#[]⟩ := by
      refine bytes_inj ?_
      rw [List.isEmpty_iff, ByteArray.toList_eq] at h
      rw [h]
    subst hx
    clear h
    go_enter Try.func19, Try.ntmps19
    go_wp2
    go_ret
    exact ⟨rfl, rfl⟩
  · have h' : x.toList.isEmpty = false := by simpa using h
    clear h
    go_enter Try.func19, Try.ntmps19
    go_wp2
    go_ret
    exact ⟨rfl, rfl⟩

set_option maxRecDepth 20000 in
set_option maxHeartbeats 4000000 in
theorem blocks_any (w : World) (a fa a1 a2 a3 : Option Addr) (n m c fc c1 c2 c3 : Nat) (R : Nat → Gr) (I : Nat → Nat) (hn : n ≤ 65536) (hm : m ≤ 65536) (ha : GrV w a n R) (hf : IntV w fa m I) (hI : ∀ p, p < m → I p < n)
    (h1 : StrV w a1 m fun p => (R (I p)).p) (h2 : StrV w a2 m fun p => (R (I p)).o) (h3 : BoolV w a3 m fun p => (R (I p)).t) :
    Calls Try.prog 21 #[.slice a n c, .slice fa m fc, .slice none 0 0, .string ⟨#[]⟩, .string ⟨#[]⟩, .slice a1 m c1, .slice a2 m c2, .slice a3 m c3] w fun e w' => e = .returned (.bool true) ∧ Below w.heap.size w w' := by
  have HA : Hid _ := ha
  have HF : Hid _ := hf
  have HI : Hid _ := hI
  have H1 : Hid _ := h1
  have H2 : Hid _ := h2
  have H3 : Hid _ := h3
  clear ha hf hI h1 h2 h3
  go_enter Try.func21, Try.ntmps21
  go_wp2
  go_loopw [18] (fun t wr => ∃ p : Nat, p ≤ m ∧ t = .int .i64 p ∧ Below w.heap.size w wr) (fun t _ => m - (intOf t).toNat)
  case atStart => exact ⟨0, Nat.zero_le _, rfl, Below.refl _ _⟩
  case round =>
    obtain ⟨p, hp, rfl, hbel⟩ := hrel
    have HB : Hid (Below w.heap.size w wr) := hbel
    by_cases hlt : p < m
    · obtain ⟨bf, of, rfl, ef⟩ := HF.out (by omega)
      obtain ⟨b, off, rfl, eg⟩ := HA.out (by have := HI.out p hlt; omega)
      obtain ⟨b1, o1, rfl, e1⟩ := H1.out (by omega)
      obtain ⟨b2, o2, rfl, e2⟩ := H2.out (by omega)
      obtain ⟨b3, o3, rfl, e3⟩ := H3.out (by omega)
      have hi := HI.out p hlt
      have cf := cell_later hbel (ef p hlt)
      have d1 := cell_later hbel (e1 p hlt)
      have d2 := cell_later hbel (e2 p hlt)
      have d3 := cell_later hbel (e3 p hlt)
      obtain ⟨g0, g1, g2, g3⟩ := eg (I p) hi
      replace g0 := cell_later hbel g0
      replace g1 := cell_later hbel g1
      replace g2 := cell_later hbel g2
      replace g3 := cell_later hbel g3
      have hpI : (p : Int) < m := by omega
      have hiI : ((I p : Nat) : Int) < n := by omega
      have hR := fun W => rename_any W (R (I p)).o
      clear ef eg e1 e2 e3 hbel
      generalize I p = i at *
      change wr.cell? _ = some (.string (R i).p) at d1
      change wr.cell? _ = some (.string (R i).o) at d2
      change wr.cell? _ = some (.bool (R i).t) at d3
      generalize R i = r at *
      have hbA : Below wr.heap.size wr (wr.alloc (.cells #[.string r.g, .string r.p, .string r.o, .bool r.t] 52)) := (Below.refl _ _).alloc (Nat.le_refl _) _
      have hnw := cell_of_block (heap_alloc_new wr (.cells #[.string r.g, .string r.p, .string r.o, .bool r.t] 52))
      have H0 : Hid ((wr.alloc (.cells #[.string r.g, .string r.p, .string r.o, .bool r.t] 52)).drew.cell? ⟨b1, o1 + p, none⟩ = some (.string r.p) ∧ (wr.alloc (.cells #[.string r.g, .string r.p, .string r.o, .bool r.t] 52)).drew.cell? ⟨b2, o2 + p, none⟩ = some (.string r.o) ∧ (wr.alloc (.cells #[.string r.g, .string r.p, .string r.o, .bool r.t] 52)).drew.cell? ⟨b3, o3 + p, none⟩ = some (.bool r.t) ∧
          (wr.alloc (.cells #[.string r.g, .string r.p, .string r.o, .bool r.t] 52)).drew.cell? ⟨wr.heap.size, 1, none⟩ = some (.string r.p) ∧ (wr.alloc (.cells #[.string r.g, .string r.p, .string r.o, .bool r.t] 52)).drew.cell? ⟨wr.heap.size, 2, none⟩ = some (.string r.o) ∧ (wr.alloc (.cells #[.string r.g, .string r.p, .string r.o, .bool r.t] 52)).drew.cell? ⟨wr.heap.size, 3, none⟩ = some (.bool r.t)) :=
        ⟨cell_later hbA.drew d1, cell_later hbA.drew d2, cell_later hbA.drew d3, hnw 1, hnw 2, hnw 3⟩
      have HB2 : Hid (Below w.heap.size w (wr.alloc (.cells #[.string r.g, .string r.p, .string r.o, .bool r.t] 52)).drew) := (HB.out.alloc HB.out.size _).drew
      clear hbA hnw
      go_wp2
      clear d1 d2 d3 g0 g1 g2 g3 cf
      go_region_held3 (fun w' => w'.cell? ⟨b1, o1 + p, none⟩ = some (.string r.p) ∧ w'.cell? ⟨b2, o2 + p, none⟩ = some (.string r.o) ∧ w'.cell? ⟨b3, o3 + p, none⟩ = some (.bool r.t) ∧ w'.cell? ⟨wr.heap.size, 1, none⟩ = some (.string r.p) ∧ w'.cell? ⟨wr.heap.size, 2, none⟩ = some (.string r.o) ∧ w'.cell? ⟨wr.heap.size, 3, none⟩ = some (.bool r.t))
        (first | exact H0.out | assumption) (first | (go_at_call 19; refine (hR _).mono ?_; rintro e w' ⟨rfl, rfl⟩))
      go_wp2
      go_roundw
      case rel => exact ⟨p + 1, by omega, by go_num, HB2.out⟩
      case measure => simp [intOf]; omega
    · obtain rfl : p = m := by omega
      clear hbel
      go_wp2
      go_ret
      exact ⟨rfl, HB.out⟩
end Go.Proofs.Qxb6602344a
