import Derived.Test.Qxb6600744aRows
import Derived.WalkKit
import Derived.ProofKit
import Derived.OpenShut
import Derived.ShutString
import Derived.ChangeOld
import Derived.Below
namespace Go.Proofs.Qxb6600744a
open Go.ChangeShapes Go.WideShapes Go.ChangeAt Go.RowKit
set_option maxRecDepth 100000
/-- the dump's head, sign by sign -/
def headL : List Char := ['h', 'a', 'r', 'n', 'e', 's', 's', ' ', '0', '6', '8', 'c', '7', 'e', 'd', '2', '9', '1', '5', '9', '3', 'b', '4', 'c', 'c', 'd', '3', '0', '0', 'f', '9', 'c', '3', '1', '9', '3', 'a', 'e', '9', '4', 'a', '1', '0', 'b', '0', '9', '5', '5', '6', '6', 'b', '1', '5', 'c', '8', '2', 'a', '2', '5', '7', '2', '5', '8', '7', 'e', '3', '8', '0', 'd', '5', 'f', '9', ' ', 'c', 'u', 't', ' ', 'a', 't', ' ', 'e', 'x', 'a', 'm', 'p', 'l', 'e', '.', 'c', 'o', 'm', '/', 's', 'a', 'n', 'd', 'g', 'l', 'a', 's', 's', '/', 's', 'a', 'n', 'd', 'g', 'l', 'a', 's', 's', '/', 'z', 'z', 'l', 'a', 'w', 's', '_', 'i', 'n', 't', 'e', 'r', 'n', 'a', 'l', '_', 'w', 'i', 'r', 'e', '_', 'b', '1', '.', 'F', 'n', 'U', 'i', 'n', 't', 'E', 'x', 'a', 'c', 't', ' ', 'e', 'x', 'a', 'm', 'p', 'l', 'e', '.', 'c', 'o', 'm', '/', 's', 'a', 'n', 'd', 'g', 'l', 'a', 's', 's', '/', 's', 'a', 'n', 'd', 'g', 'l', 'a', 's', 's', '/', 'z', 'z', 'l', 'a', 'w', 's', '_', 'i', 'n', 't', 'e', 'r', 'n', 'a', 'l', '_', 'w', 'i', 'r', 'e', '_', 'b', '1', '.', 'F', 'n', 'U', 'i', 'n', 't', 'R', 'e', 'a', 'd', 's', 'W', 'h', 'a', 't', 'I', 't', 'W', 'r', 'i', 't', 'e', 's', ' ', 'e', 'x', 'a', 'm', 'p', 'l', 'e', '.', 'c', 'o', 'm', '/', 's', 'a', 'n', 'd', 'g', 'l', 'a', 's', 's', '/', 's', 'a', 'n', 'd', 'g', 'l', 'a', 's', 's', '/', 'z', 'z', 'l', 'a', 'w', 's', '_', 'i', 'n', 't', 'e', 'r', 'n', 'a', 'l', '_', 'w', 'i', 'r', 'e', '_', 'b', '1', '.', 'F', 'n', 'S', 't', 'r', 'E', 'x', 'a', 'c', 't', ' ', 'e', 'x', 'a', 'm', 'p', 'l', 'e', '.', 'c', 'o', 'm', '/', 's', 'a', 'n', 'd', 'g', 'l', 'a', 's', 's', '/', 's', 'a', 'n', 'd', 'g', 'l', 'a', 's', 's', '/', 'z', 'z', 'l', 'a', 'w', 's', '_', 'i', 'n', 't', 'e', 'r', 'n', 'a', 'l', '_', 'w', 'i', 'r', 'e', '_', 'b', '1', '.', 'F', 'n', 'S', 't', 'r', 'R', 'e', 'f', 'u', 's', 'e', 's', 'E', 's', 'c', 'a', 'p', 'e', 'd', 'B', 'y', 't', 'e', ' ', 'e', 'x', 'a', 'm', 'p', 'l', 'e', '.', 'c', 'o', 'm', '/', 's', 'a', 'n', 'd', 'g', 'l', 'a', 's', 's', '/', 's', 'a', 'n', 'd', 'g', 'l', 'a', 's', 's', '/', 'z', 'z', 'l', 'a', 'w', 's', '_', 'i', 'n', 't', 'e', 'r', 'n', 'a', 'l', '_', 'w', 'i', 'r', 'e', '_', 'b', '1', '.', 'F', 'n', 'V', 'a', 'l', 'u', 'e', 'E', 'x', 'a', 'c', 't', ' ', 'e', 'x', 'a', 'm', 'p', 'l', 'e', '.', 'c', 'o', 'm', '/', 's', 'a', 'n', 'd', 'g', 'l', 'a', 's', 's', '/', 's', 'a', 'n', 'd', 'g', 'l', 'a', 's', 's', '/', 'z', 'z', 'l', 'a', 'w', 's', '_', 'i', 'n', 't', 'e', 'r', 'n', 'a', 'l', '_', 'w', 'i', 'r', 'e', '_', 'b', '1', '.', 'F', 'n', 'V', 'a', 'l', 'u', 'e', 'S', 'h', 'a', 'l', 'l', 'o', 'w', 'e', 'r', 'D', 'e', 'p', 't', 'h', 'R', 'e', 'a', 'd', 's', 'T', 'h', 'e', 'S', 'a', 'm', 'e', ' ', 'e', 'x', 'a', 'm', 'p', 'l', 'e', '.', 'c', 'o', 'm', '/', 's', 'a', 'n', 'd', 'g', 'l', 'a', 's', 's', '/', 's', 'a', 'n', 'd', 'g', 'l', 'a', 's', 's', '/', 'z', 'z', 'l', 'a', 'w', 's', '_', 'i', 'n', 't', 'e', 'r', 'n', 'a', 'l', '_', 'w', 'i', 'r', 'e', '_', 'b', '1', '.', 'F', 'n', 'V', 'a', 'l', 'u', 'e', 'N', 'e', 's', 't', 's', 'I', 'n', 'A', 'r', 'r', 'a', 'y', 'A', 'n', 'd', 'O', 'b', 'j', 'e', 'c', 't', ' ', 'e', 'x', 'a', 'm', 'p', 'l', 'e', '.', 'c', 'o', 'm', '/', 's', 'a', 'n', 'd', 'g', 'l', 'a', 's', 's', '/', 's', 'a', 'n', 'd', 'g', 'l', 'a', 's', 's', '/', 'z', 'z', 'l', 'a', 'w', 's', '_', 'i', 'n', 't', 'e', 'r', 'n', 'a', 'l', '_', 'w', 'i', 'r', 'e', '_', 'b', '1', '.', 'F', 'n', 'S', 't', 'r', 'R', 'e', 'a', 'd', 's', 'Q', 'u', 'o', 't', 'e', 'd', 'S', 'a', 'f', 'e', 'T', 'e', 'x', 't']
theorem head_str : Try.prog.initOrder = String.ofList headL := by kernel_rfl
theorem head_list : Try.prog.initOrder.toList = headL := by rw [head_str, String.toList_ofList]

theorem words_space : ∀ (w r : List Char), (w.all fun c => c != ' ') = true → wordsSigns (w ++ ' ' :: r) = w :: wordsSigns r
  | [], r, _ => by simp [wordsSigns]
  | c :: w, r, h => by
    simp only [List.all_cons, Bool.and_eq_true] at h
    have hc : c ≠ ' ' := by simpa using h.1
    have ih := words_space w r h.2
    rw [List.cons_append, wordsSigns.eq_3 _ _ (fun e => hc e), ih]
def sumL : List Char := headL.extract 8 72
theorem head_parts : headL = ['h', 'a', 'r', 'n', 'e', 's', 's'] ++ ' ' :: (sumL ++ ' ' :: (['c', 'u', 't'] ++ ' ' :: headL.drop 77)) := by kernel_rfl
theorem head_words : ∃ rest, wordsSigns headL = ['h', 'a', 'r', 'n', 'e', 's', 's'] :: sumL :: ['c', 'u', 't'] :: rest := by
  refine ⟨wordsSigns (headL.drop 77), ?_⟩
  conv => lhs; rw [head_parts]
  rw [words_space _ _ (by decide +kernel), words_space _ _ (by decide +kernel), words_space _ _ (by decide +kernel)]
theorem head_behind : ∃ rest, behindMainWord (wordsSigns Try.prog.initOrder.toList) = ['c', 'u', 't'] :: rest := by
  obtain ⟨rest, e⟩ := head_words
  refine ⟨rest, ?_⟩
  rw [head_list, e]
  have b : ((['h', 'a', 'r', 'n', 'e', 's', 's'] == "harness".toList || ['h', 'a', 'r', 'n', 'e', 's', 's'] == "ownmain".toList) && isSumSigns sumL) = true := by decide +kernel
  simp only [behindMainWord, b, if_true]

theorem strip_none : ∀ (os : List String) (c : List Char) (rest : List (List Char)), (os.all fun o => !(c == o.toList)) = true → stripLifts os (c :: rest) = ([], c :: rest)
  | [], c, rest, _ => rfl
  | o :: os, c, rest, h => by
    simp only [List.all_cons, Bool.and_eq_true, Bool.not_eq_true'] at h
    rw [stripLifts, if_neg (by rw [h.1]; decide), strip_none os c rest h.2]
theorem strip_cut (rest : List (List Char)) : stripLifts liftWords (['c', 'u', 't'] :: rest) = ([], ['c', 'u', 't'] :: rest) := strip_none _ _ _ (by decide +kernel)
theorem lays_later : Try.prog.laysLater = false := by kernel_rfl
theorem bears_reflect : Try.prog.bearsReflect = false := by kernel_rfl
theorem door_fits : Try.prog.doorFits [] = true := by kernel_rfl
theorem cut1 : (['c', 'u', 't'] == "gc".toList || ['c', 'u', 't'] == "spec".toList) = false := by decide +kernel
theorem cut2 : (['c', 'u', 't'] == "cut".toList) = true := by decide +kernel
theorem cut3 : (some ['c', 'u', 't'] == some "cut".toList) = true := by decide +kernel

theorem may_enter_of {P : Program} {rest : List (List Char)} (e : behindMainWord (wordsSigns P.initOrder.toList) = ['c', 'u', 't'] :: rest) (h1 : P.laysLater = false) (h2 : P.bearsReflect = false) (h3 : P.doorFits [] = true) : P.mayEnter = true := by
  unfold Program.mayEnter
  rw [e]
  simp only [strip_cut, cut1, List.head?_cons, cut3, h1, h2, h3, Bool.false_and, Bool.false_or, Bool.not_false, Bool.or_true, Bool.and_true, List.contains_nil, Bool.and_self]
theorem may_enter : Try.prog.mayEnter = true := head_behind.elim fun _ e => may_enter_of e lays_later bears_reflect door_fits
theorem cut4 : (some ['c', 'u', 't'] == some "carried".toList) = false := by decide +kernel
theorem lifts_final_of {P : Program} {rest : List (List Char)} (e : behindMainWord (wordsSigns P.initOrder.toList) = ['c', 'u', 't'] :: rest) : P.liftsFinal = false := by
  unfold Program.liftsFinal Program.headLifts
  rw [e]
  simp only [strip_cut, List.head?_cons, cut3, cut4, Bool.false_and, Bool.false_or, if_true, List.contains_nil]
theorem lifts_final : Try.prog.liftsFinal = false := head_behind.elim fun _ e => lifts_final_of e
theorem make_cut_of {P : Program} {rest : List (List Char)} (e : behindMainWord (wordsSigns P.initOrder.toList) = ['c', 'u', 't'] :: rest) : P.make = some .cut := by
  unfold Program.make
  rw [e]
  simp only [cut1, cut2, Bool.true_or, if_true]
  rfl
theorem make_cut : Try.prog.make = some .cut := head_behind.elim fun _ e => make_cut_of e
theorem and_mk {a b : Bool} (ha : a = true) (hb : b = true) : (a && b) = true := by rw [ha, hb]; rfl
theorem joined_mk {P : Program} {f : FuncId} {fn : Func} {s : ChangeSpec} {c : OpenClaim}
    (h0 : (c.wf (OpenSpec.ofChange s)) = true)
    (h1 : (laidOutB P) = true)
    (h2 : (mapsRowed P) = true)
    (h3 : (fn.params.all (P.readableRec ·)) = true)
    (h4 : (namedTie P c.named s.vars) = true)
    (h5 : (c.stops == []) = true)
    (h6 : (P.stops == []) = true)
    (h7 : (c.knobs == []) = true)
    (h8 : (P.stopKnobs == []) = true)
    (h9 : (c.inPlace == P.inPlace f) = true)
    (h10 : (c.unfollowed == P.unfollowed f) = true)
    (h11 : (c.recurses == P.recurses f) = true)
    (h12 : (c.named == P.varsNamed f) = true)
    (h13 : (c.maps == (fn.params.toList ++ s.plain.varTypes P).any (P.mapsRec ·)) = true)
    (h14 : (c.ifaces == (fn.params.toList ++ s.plain.varTypes P).any (P.ifacesRec ·)) = true)
    (h15 : (c.mapsOut == P.mapsAmong fn.resultTypes.toList) = true)
    (h16 : (c.loops == (fn.params.toList ++ s.plain.varTypes P).any (P.loopsFrom ·)) = true)
    (h17 : (c.wideKeys == (fn.params.toList ++ s.plain.varTypes P ++ fn.resultTypes.toList).any (P.wideKeysFrom ·)) = true)
    (h18 : (s.vars.all (P.varReadable ·)) = true)
    (h19 : (fn.resultTypes.all (fun t => P.readableRec t && decide (t < P.types.size))) = true)
    (h20 : (c.ifacesOut == fn.resultTypes.toList.any (P.ifacesRec ·)) = true)
    (h21 : (c.loopsOut == fn.resultTypes.toList.any (P.loopsFrom ·)) = true)
    (h22 : (c.plainKeys == P.plainKeys) = true)
    (h23 : (c.shortTexts.isNone) = true)
    (h24 : (P.stopsHeard) = true)
    (h25 : P.mayEnter = true)
    (h26 : P.liftsFinal = c.lifted)
    (h27 : P.make = some c.make)
    (h28 : (c.kinds == (if c.domain.isEmpty then [] else fn.params.toList.map fun t => match P.underlying t with | some (.int k) => some k | _ => none)) = true)
    (h29 : (c.pinned == c.pinnedBy) = true)
    (h30 : (c.veiled == (fn.params.toList ++ s.plain.varTypes P ++ fn.resultTypes.toList).any (P.veiledRec ·)) = true)
    (h31 : (c.veiledFits P fn.params.toList (fn.params.toList ++ s.plain.varTypes P ++ fn.resultTypes.toList)) = true) : joinedFacts P f fn s c = true := by
  have h26' : (c.lifted == P.liftsFinal) = true := by rw [h26]; exact beq_self_eq_true _
  have h27' : (P.make == some c.make) = true := by rw [h27]; exact beq_self_eq_true _
  exact and_mk (and_mk (and_mk (and_mk (and_mk (and_mk (and_mk (and_mk (and_mk (and_mk (and_mk (and_mk (and_mk (and_mk (and_mk (and_mk (and_mk (and_mk (and_mk (and_mk (and_mk (and_mk (and_mk (and_mk (and_mk (and_mk (and_mk (and_mk (and_mk (and_mk (and_mk h0 h1) h2) h3) h4) h5) h6) h7) h8) h9) h10) h11) h12) h13) h14) h15) h16) h17) h18) h19) h20) h21) h22) h23) h24) h25) h26') h27') h28) h29) h30) h31
end Go.Proofs.Qxb6600744a
