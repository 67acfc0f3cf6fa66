/-
  THE DUMP's HEAD, READ ONCE: its first three words; so that the closed facts on it need not be reckoned sign by sign.
-/
import Derived.Test.Qxb6615552aRows
import Derived.JoinedOf
import Derived.KernelRfl
namespace Go.Proofs.Qxb6615552a
set_option maxRecDepth 100000

theorem words_cons (w r : List Char) (h : ∀ c ∈ w, c ≠ ' ') : wordsSigns (w ++ ' ' :: r) = w :: wordsSigns r := by
  induction w with
  | nil => simp [wordsSigns]
  | cons c w ih =>
    have hc : c ≠ ' ' := h c (by simp)
    have := ih fun x hx => h x (by simp [hx])
    rw [List.cons_append, wordsSigns, this]
    intro h'
    exact hc h'

def headSum : List Char := ['6', '6', 'd', 'e', 'e', '4', 'd', 'e', '8', '4', 'c', '5', '2', 'a', '3', 'e', '8', 'e', '4', 'c', 'd', '9', '0', 'c', '1', '6', 'd', 'a', 'e', 'f', 'a', '5', '2', '2', 'a', '9', '7', '1', '8', '2', 'e', '7', '1', '3', '9', 'f', '1', 'd', 'b', '2', '6', 'c', 'e', 'b', 'b', '0', 'b', '9', '5', '5', 'e', 'f', 'e', 'b']
def headRest : List Char := ['a', 't', ' ', 'e', 'x', 'a', 'm', 'p', 'l', 'e', '.', 'c', 'o', 'm', '/', 'e', 'n', 'v', 'l', 'a', 'y', 'e', 'r', '/', 'e', 'n', 'v', 'l', 'a', 'y', 'e', 'r', '/', 'z', 'z', 'l', 'a', 'w', 's', '_', 'r', 'o', 'o', 't', '_', 'b', '1', '.', 'F', 'n', 'S', 'o', 'r', 't', 'e', 'd', 'K', 'e', 'y', 's', 'I', 'n', 's', 'e', 'r', 't', 'O', 'n', 'e', 'K', 'e', 'y', ' ', 'e', 'x', 'a', 'm', 'p', 'l', 'e', '.', 'c', 'o', 'm', '/', 'e', 'n', 'v', 'l', 'a', 'y', 'e', 'r', '/', 'e', 'n', 'v', 'l', 'a', 'y', 'e', 'r', '/', 'z', 'z', 'l', 'a', 'w', 's', '_', 'r', 'o', 'o', 't', '_', 'b', '1', '.', 'F', 'n', 'S', 'o', 'r', 't', 'e', 'd', 'K', 'e', 'y', 's', 'O', 'f', 'U', 'n', 'i', 'o', 'n', 'I', 's', 'M', 'e', 'r', 'g', 'e', ' ', 'e', 'x', 'a', 'm', 'p', 'l', 'e', '.', 'c', 'o', 'm', '/', 'e', 'n', 'v', 'l', 'a', 'y', 'e', 'r', '/', 'e', 'n', 'v', 'l', 'a', 'y', 'e', 'r', '/', 'z', 'z', 'l', 'a', 'w', 's', '_', 'r', 'o', 'o', 't', '_', 'b', '1', '.', 'F', 'n', 'A', 't', 'L', 'i', 'n', 'e', 'E', 'n', 'd', 'S', 't', 'o', 'p', 's', 'A', 't', 'E', 'a', 'c', 'h', 'L', 'i', 'n', 'e', 'F', 'e', 'e', 'd', 'A', 'n', 'd', 'T', 'h', 'e', 'E', 'n', 'd']
theorem order_eq : Try.prog.initOrder = String.ofList (['h', 'a', 'r', 'n', 'e', 's', 's'] ++ ' ' :: (headSum ++ ' ' :: (['c', 'u', 't'] ++ ' ' :: headRest))) := by kernel_rfl
theorem order_words : wordsSigns Try.prog.initOrder.toList = ['h', 'a', 'r', 'n', 'e', 's', 's'] :: headSum :: ['c', 'u', 't'] :: wordsSigns headRest := by
  rw [order_eq, String.toList_ofList, words_cons _ _ (by decide), words_cons _ _ (by decide), words_cons _ _ (by decide)]
theorem behind_eq (r : List (List Char)) : behindMainWord (['h', 'a', 'r', 'n', 'e', 's', 's'] :: headSum :: r) = r := by
  have h1 : (['h', 'a', 'r', 'n', 'e', 's', 's'] == "harness".toList || ['h', 'a', 'r', 'n', 'e', 's', 's'] == "ownmain".toList) = true := by decide
  have h2 : isSumSigns headSum = true := by decide
  simp only [behindMainWord, h1, h2, Bool.and_self, if_true]
theorem head_words : behindMainWord (wordsSigns Try.prog.initOrder.toList) = ['c', 'u', 't'] :: wordsSigns headRest := by rw [order_words, behind_eq]

theorem strip_cut (r : List (List Char)) : stripLifts liftWords (['c', 'u', 't'] :: r) = ([], ['c', 'u', 't'] :: r) := by
  simp [liftWords, stripLifts]

theorem mayEnter_of (P : Program) (r : List (List Char)) (h : behindMainWord (wordsSigns P.initOrder.toList) = ['c', 'u', 't'] :: r) (h1 : P.laysLater = false) (h2 : P.bearsReflect = false) (h3 : P.doorFits [] = true) : P.mayEnter = true := by
  unfold Program.mayEnter
  rw [h]
  simp only [strip_cut]
  rw [h1, h2, h3]
  simp
theorem headLifts_of (P : Program) (r : List (List Char)) (h : behindMainWord (wordsSigns P.initOrder.toList) = ['c', 'u', 't'] :: r) : P.headLifts = [] := by
  unfold Program.headLifts
  rw [h]
  simp only [strip_cut]
  simp
theorem liftsFinal_of (P : Program) (r : List (List Char)) (h : behindMainWord (wordsSigns P.initOrder.toList) = ['c', 'u', 't'] :: r) : P.liftsFinal = false := by
  unfold Program.liftsFinal
  rw [headLifts_of P r h, h]
  simp
theorem make_of (P : Program) (r : List (List Char)) (h : behindMainWord (wordsSigns P.initOrder.toList) = ['c', 'u', 't'] :: r) : P.make = some .cut := by
  unfold Program.make
  rw [h]
  simp
theorem fact_mayEnter : Try.prog.mayEnter = true := mayEnter_of _ _ head_words (by kernel_rfl) (by kernel_rfl) (by kernel_rfl)
theorem fact_liftsFinal : Try.prog.liftsFinal = false := liftsFinal_of _ _ head_words
theorem fact_make : Try.prog.make = some .cut := make_of _ _ head_words

/-- The thirty-two closed facts of a row, those on the dump's head told. -/
theorem facts_of (P : Program) (f : FuncId) (fn : Func) (s : ChangeSpec) (c : OpenClaim)
    (k1 : c.wf (OpenSpec.ofChange s) = true) (k2 : laidOutB P = true) (k3 : mapsRowed P = true) (k4 : fn.params.all (P.readableRec ·) = true) (k5 : namedTie P c.named s.vars = true)
    (k6 : (c.stops == []) = true) (k7 : (P.stops == []) = true) (k8 : (c.knobs == []) = true) (k9 : (P.stopKnobs == []) = true)
    (k10 : (c.inPlace == P.inPlace f) = true) (k11 : (c.unfollowed == P.unfollowed f) = true) (k12 : (c.recurses == P.recurses f) = true) (k13 : (c.named == P.varsNamed f) = true)
    (k14 : ((c.maps == (fn.params.toList ++ s.plain.varTypes P).any (P.mapsRec ·)) && (c.ifaces == (fn.params.toList ++ s.plain.varTypes P).any (P.ifacesRec ·)) && (c.mapsOut == P.mapsAmong fn.resultTypes.toList) &&
      (c.loops == (fn.params.toList ++ s.plain.varTypes P).any (P.loopsFrom ·)) && (c.wideKeys == (fn.params.toList ++ s.plain.varTypes P ++ fn.resultTypes.toList).any (P.wideKeysFrom ·)) &&
      s.vars.all (P.varReadable ·) && fn.resultTypes.all (fun t => P.readableRec t && decide (t < P.types.size)) && (c.ifacesOut == fn.resultTypes.toList.any (P.ifacesRec ·)) && (c.loopsOut == fn.resultTypes.toList.any (P.loopsFrom ·)) && (c.plainKeys == P.plainKeys) && c.shortTexts.isNone && P.stopsHeard) = true)
    (k26 : P.mayEnter = true) (k27 : (c.lifted == P.liftsFinal) = true) (k28 : (P.make == some c.make) = true)
    (k29 : ((c.kinds == (if c.domain.isEmpty then [] else fn.params.toList.map fun t => match P.underlying t with | some (.int k) => some k | _ => none))) = true) (k30 : (c.pinned == c.pinnedBy) = true)
    (k31 : ((c.veiled == (fn.params.toList ++ s.plain.varTypes P ++ fn.resultTypes.toList).any (P.veiledRec ·)) && c.veiledFits P fn.params.toList (fn.params.toList ++ s.plain.varTypes P ++ fn.resultTypes.toList)) = true) :
    joinedFacts P f fn s c = true := by
  unfold joinedFacts
  simp only [Bool.and_eq_true] at k14 k31 ⊢
  simp only [k1, k2, k3, k4, k5, k6, k7, k8, k9, k10, k11, k12, k13, k14, k26, k27, k28, k30, k31, and_self]
  exact ⟨⟨⟨⟨trivial, k29⟩, trivial⟩, trivial⟩, trivial⟩
end Go.Proofs.Qxb6615552a
