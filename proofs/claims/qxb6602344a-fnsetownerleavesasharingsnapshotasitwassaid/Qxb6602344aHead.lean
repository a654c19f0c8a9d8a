import Derived.Test.Qxb6602344aRows
import Derived.WalkKit
import Derived.ProofKit
import Derived.OpenShut
import Derived.ShutString
import Derived.ChangeOld
import Derived.Below
namespace Go.Proofs.Qxb6602344a
open Go.ChangeShapes Go.WideShapes Go.ChangeAt Go.RowKit
set_option maxRecDepth 100000
/-- the dump's head, sign by sign -/
def headL : List Char := ['h', 'a', 'r', 'n', 'e', 's', 's', ' ', '5', 'e', '5', '8', '7', '0', '3', 'd', 'f', '8', '6', 'c', '4', 'b', '6', '9', '1', 'd', 'd', 'a', 'c', 'b', '3', '3', '3', '8', '3', '9', '6', 'a', '2', '6', '3', 'e', '3', '9', '3', '1', '3', 'b', '8', '5', '5', 'a', 'f', '7', '9', '3', 'e', 'b', 'c', 'd', '1', '2', '4', '2', '6', '8', 'd', '8', '3', 'c', '4', 'c', ' ', 'c', 'u', 't', ' ', 'a', 't', ' ', 'e', 'x', 'a', 'm', 'p', 'l', 'e', '.', 'c', 'o', 'm', '/', 'r', 'e', 's', 't', 'i', 't', 'c', 'h', '/', 'r', 'e', 's', 't', 'i', 't', 'c', 'h', '/', 'z', 'z', 'l', 'a', 'w', 's', '_', 'p', 'o', 's', 't', 'g', 'r', 'e', 's', '_', 'b', '1', '.', 'F', 'n', 'S', 'e', 't', 'O', 'w', 'n', 'e', 'r', 'M', 'o', 'v', 'e', 's', 'T', 'h', 'e', 'O', 'w', 'n', 'e', 'r', 's', 'R', 'i', 'g', 'h', 't', 's', 'T', 'o', 'T', 'h', 'e', 'N', 'e', 'w', 'O', 'w', 'n', 'e', 'r', ' ', 'e', 'x', 'a', 'm', 'p', 'l', 'e', '.', 'c', 'o', 'm', '/', 'r', 'e', 's', 't', 'i', 't', 'c', 'h', '/', 'r', 'e', 's', 't', 'i', 't', 'c', 'h', '/', 'z', 'z', 'l', 'a', 'w', 's', '_', 'p', 'o', 's', 't', 'g', 'r', 'e', 's', '_', 'b', '1', '.', 'F', 'n', 'S', 'e', 't', 'O', 'w', 'n', 'e', 'r', 'L', 'e', 'a', 'v', 'e', 's', 'A', 'S', 'h', 'a', 'r', 'i', 'n', 'g', 'S', 'n', 'a', 'p', 's', 'h', 'o', 't', 'A', 's', 'I', 't', 'W', 'a', 's', ' ', 'e', 'x', 'a', 'm', 'p', 'l', 'e', '.', 'c', 'o', 'm', '/', 'r', 'e', 's', 't', 'i', 't', 'c', 'h', '/', 'r', 'e', 's', 't', 'i', 't', 'c', 'h', '/', 'z', 'z', 'l', 'a', 'w', 's', '_', 'p', 'o', 's', 't', 'g', 'r', 'e', 's', '_', 'b', '1', '.', 'F', 'n', 'S', 'e', 't', 'O', 'w', 'n', 'e', 'r', 'T', 'h', 'e', 'r', 'e', 'A', 'n', 'd', 'B', 'a', 'c', 'k', 'R', 'e', 's', 't', 'o', 'r', 'e', 's', 'T', 'h', 'e', 'R', 'i', 'g', 'h', 't', 's']
theorem head_str : Try.prog.initOrder = String.ofList headL := by kernel_rfl
theorem head_list : Try.prog.initOrder.toList = headL := by rw [head_str, String.toList_ofList]

theorem words_space : ∀ (w r : List Char), (w.all fun c => c != ' ') = true → wordsSigns (w ++ ' ' :: r) = w :: wordsSigns r
  | [], r, _ => by simp [wordsSigns]
  | c :: w, r, h => by
    simp only [List.all_cons, Bool.and_eq_true] at h
    have hc : c ≠ ' ' := by simpa using h.1
    have ih := words_space w r h.2
    rw [List.cons_append, wordsSigns.eq_3 _ _ (fun e => hc e), ih]
def sumL : List Char := headL.extract 8 72
theorem head_parts : headL = ['h', 'a', 'r', 'n', 'e', 's', 's'] ++ ' ' :: (sumL ++ ' ' :: (['c', 'u', 't'] ++ ' ' :: headL.drop 77)) := by kernel_rfl
theorem head_words : ∃ rest, wordsSigns headL = ['h', 'a', 'r', 'n', 'e', 's', 's'] :: sumL :: ['c', 'u', 't'] :: rest := by
  refine ⟨wordsSigns (headL.drop 77), ?_⟩
  conv => lhs; rw [head_parts]
  rw [words_space _ _ (by decide +kernel), words_space _ _ (by decide +kernel), words_space _ _ (by decide +kernel)]
theorem head_behind : ∃ rest, behindMainWord (wordsSigns Try.prog.initOrder.toList) = ['c', 'u', 't'] :: rest := by
  obtain ⟨rest, e⟩ := head_words
  refine ⟨rest, ?_⟩
  rw [head_list, e]
  have b : ((['h', 'a', 'r', 'n', 'e', 's', 's'] == "harness".toList || ['h', 'a', 'r', 'n', 'e', 's', 's'] == "ownmain".toList) && isSumSigns sumL) = true := by decide +kernel
  simp only [behindMainWord, b, if_true]

theorem strip_none : ∀ (os : List String) (c : List Char) (rest : List (List Char)), (os.all fun o => !(c == o.toList)) = true → stripLifts os (c :: rest) = ([], c :: rest)
  | [], c, rest, _ => rfl
  | o :: os, c, rest, h => by
    simp only [List.all_cons, Bool.and_eq_true, Bool.not_eq_true'] at h
    rw [stripLifts, if_neg (by rw [h.1]; decide), strip_none os c rest h.2]
theorem strip_cut (rest : List (List Char)) : stripLifts liftWords (['c', 'u', 't'] :: rest) = ([], ['c', 'u', 't'] :: rest) := strip_none _ _ _ (by decide +kernel)
theorem lays_later : Try.prog.laysLater = false := by kernel_rfl
theorem bears_reflect : Try.prog.bearsReflect = false := by kernel_rfl
theorem door_fits : Try.prog.doorFits [] = true := by kernel_rfl
theorem cut1 : (['c', 'u', 't'] == "gc".toList || ['c', 'u', 't'] == "spec".toList) = false := by decide +kernel
theorem cut2 : (['c', 'u', 't'] == "cut".toList) = true := by decide +kernel
theorem cut3 : (some ['c', 'u', 't'] == some "cut".toList) = true := by decide +kernel

theorem may_enter_of {P : Program} {rest : List (List Char)} (e : behindMainWord (wordsSigns P.initOrder.toList) = ['c', 'u', 't'] :: rest) (h1 : P.laysLater = false) (h2 : P.bearsReflect = false) (h3 : P.doorFits [] = true) : P.mayEnter = true := by
  unfold Program.mayEnter
  rw [e]
  simp only [strip_cut, cut1, List.head?_cons, cut3, h1, h2, h3, Bool.false_and, Bool.false_or, Bool.not_false, Bool.or_true, Bool.and_true, List.contains_nil, Bool.and_self]
theorem may_enter : Try.prog.mayEnter = true := head_behind.elim fun _ e => may_enter_of e lays_later bears_reflect door_fits
theorem cut4 : (some ['c', 'u', 't'] == some "carried".toList) = false := by decide +kernel
theorem lifts_final_of {P : Program} {rest : List (List Char)} (e : behindMainWord (wordsSigns P.initOrder.toList) = ['c', 'u', 't'] :: rest) : P.liftsFinal = false := by
  unfold Program.liftsFinal Program.headLifts
  rw [e]
  simp only [strip_cut, List.head?_cons, cut3, cut4, Bool.false_and, Bool.false_or, if_true, List.contains_nil]
theorem lifts_final : Try.prog.liftsFinal = false := head_behind.elim fun _ e => lifts_final_of e
theorem make_cut_of {P : Program} {rest : List (List Char)} (e : behindMainWord (wordsSigns P.initOrder.toList) = ['c', 'u', 't'] :: rest) : P.make = some .cut := by
  unfold Program.make
  rw [e]
  simp only [cut1, cut2, Bool.true_or, if_true]
  rfl
theorem make_cut : Try.prog.make = some .cut := head_behind.elim fun _ e => make_cut_of e
theorem and_mk {a b : Bool} (ha : a = true) (hb : b = true) : (a && b) = true := by rw [ha, hb]; rfl
theorem joined_mk {P : Program} {f : FuncId} {fn : Func} {s : ChangeSpec} {c : OpenClaim}
    (h0 : (c.wf (OpenSpec.ofChange s)) = true)
    (h1 : (laidOutB P) = true)
    (h2 : (mapsRowed P) = true)
    (h3 : (fn.params.all (P.readableRec ·)) = true)
    (h4 : (namedTie P c.named s.vars) = true)
    (h5 : (c.stops == []) = true)
    (h6 : (P.stops == []) = true)
    (h7 : (c.knobs == []) = true)
    (h8 : (P.stopKnobs == []) = true)
    (h9 : (c.inPlace == P.inPlace f) = true)
    (h10 : (c.unfollowed == P.unfollowed f) = true)
    (h11 : (c.recurses == P.recurses f) = true)
    (h12 : (c.named == P.varsNamed f) = true)
    (h13 : (c.maps == (fn.params.toList ++ s.plain.varTypes P).any (P.mapsRec ·)) = true)
    (h14 : (c.ifaces == (fn.params.toList ++ s.plain.varTypes P).any (P.ifacesRec ·)) = true)
    (h15 : (c.mapsOut == P.mapsAmong fn.resultTypes.toList) = true)
    (h16 : (c.loops == (fn.params.toList ++ s.plain.varTypes P).any (P.loopsFrom ·)) = true)
    (h17 : (c.wideKeys == (fn.params.toList ++ s.plain.varTypes P ++ fn.resultTypes.toList).any (P.wideKeysFrom ·)) = true)
    (h18 : (s.vars.all (P.varReadable ·)) = true)
    (h19 : (fn.resultTypes.all (fun t => P.readableRec t && decide (t < P.types.size))) = true)
    (h20 : (c.ifacesOut == fn.resultTypes.toList.any (P.ifacesRec ·)) = true)
    (h21 : (c.loopsOut == fn.resultTypes.toList.any (P.loopsFrom ·)) = true)
    (h22 : (c.plainKeys == P.plainKeys) = true)
    (h23 : (c.shortTexts.isNone) = true)
    (h24 : (P.stopsHeard) = true)
    (h25 : P.mayEnter = true)
    (h26 : P.liftsFinal = c.lifted)
    (h27 : P.make = some c.make)
    (h28 : (c.kinds == (if c.domain.isEmpty then [] else fn.params.toList.map fun t => match P.underlying t with | some (.int k) => some k | _ => none)) = true)
    (h29 : (c.pinned == c.pinnedBy) = true)
    (h30 : (c.veiled == (fn.params.toList ++ s.plain.varTypes P ++ fn.resultTypes.toList).any (P.veiledRec ·)) = true)
    (h31 : (c.veiledFits P fn.params.toList (fn.params.toList ++ s.plain.varTypes P ++ fn.resultTypes.toList)) = true) : joinedFacts P f fn s c = true := by
  have h26' : (c.lifted == P.liftsFinal) = true := by rw [h26]; exact beq_self_eq_true _
  have h27' : (P.make == some c.make) = true := by rw [h27]; exact beq_self_eq_true _
  exact and_mk (and_mk (and_mk (and_mk (and_mk (and_mk (and_mk (and_mk (and_mk (and_mk (and_mk (and_mk (and_mk (and_mk (and_mk (and_mk (and_mk (and_mk (and_mk (and_mk (and_mk (and_mk (and_mk (and_mk (and_mk (and_mk (and_mk (and_mk (and_mk (and_mk (and_mk h0 h1) h2) h3) h4) h5) h6) h7) h8) h9) h10) h11) h12) h13) h14) h15) h16) h17) h18) h19) h20) h21) h22) h23) h24) h25) h26') h27') h28) h29) h30) h31
end Go.Proofs.Qxb6602344a
