import Derived.Test.Qxb6601350aRows
import Derived.JoinedOf
namespace Go.Proofs.Qxb6601350a.settlesFacts
set_option maxRecDepth 100000
def restSigns : List Char := ['a', 't', ' ', 'e', 'x', 'a', 'm', 'p', 'l', 'e', '.', 'c', 'o', 'm', '/', 's', 'h', 'e', 'l', 'l', 'w', 'r', 'i', 'g', 'h', 't', '/', 's', 'h', 'e', 'l', 'l', 'w', 'r', 'i', 'g', 'h', 't', '/', 'z', 'z', 'l', 'a', 'w', 's', '_', 'p', 'k', 'g', '_', 'p', 'o', 'l', 'i', 'c', 'y', '_', 'b', '1', '.', 'F', 'n', 'P', 'a', 'r', 's', 'e', 'D', 'e', 'c', 'i', 'm', 'a', 'l', 'M', 'a', 't', 'c', 'h', 'e', 's', 'M', 'o', 'd', 'e', 'l', ' ', 'e', 'x', 'a', 'm', 'p', 'l', 'e', '.', 'c', 'o', 'm', '/', 's', 'h', 'e', 'l', 'l', 'w', 'r', 'i', 'g', 'h', 't', '/', 's', 'h', 'e', 'l', 'l', 'w', 'r', 'i', 'g', 'h', 't', '/', 'z', 'z', 'l', 'a', 'w', 's', '_', 'p', 'k', 'g', '_', 'p', 'o', 'l', 'i', 'c', 'y', '_', 'b', '1', '.', 'F', 'n', 'M', 'a', 'r', 'k', 'B', 'r', 'a', 'c', 'k', 'e', 't', 's', 'M', 'a', 't', 'c', 'h', 'e', 's', 'M', 'o', 'd', 'e', 'l', ' ', 'e', 'x', 'a', 'm', 'p', 'l', 'e', '.', 'c', 'o', 'm', '/', 's', 'h', 'e', 'l', 'l', 'w', 'r', 'i', 'g', 'h', 't', '/', 's', 'h', 'e', 'l', 'l', 'w', 'r', 'i', 'g', 'h', 't', '/', 'z', 'z', 'l', 'a', 'w', 's', '_', 'p', 'k', 'g', '_', 'p', 'o', 'l', 'i', 'c', 'y', '_', 'b', '1', '.', 'F', 'n', 'M', 'a', 'r', 'k', 'B', 'r', 'a', 'c', 'k', 'e', 't', 's', 'P', 'a', 'i', 'r', 's', 'A', 'n', 'd', 'S', 'e', 't', 't', 'l', 'e', 's', ' ', 'e', 'x', 'a', 'm', 'p', 'l', 'e', '.', 'c', 'o', 'm', '/', 's', 'h', 'e', 'l', 'l', 'w', 'r', 'i', 'g', 'h', 't', '/', 's', 'h', 'e', 'l', 'l', 'w', 'r', 'i', 'g', 'h', 't', '/', 'z', 'z', 'l', 'a', 'w', 's', '_', 'p', 'k', 'g', '_', 'p', 'o', 'l', 'i', 'c', 'y', '_', 'b', '1', '.', 'F', 'n', 'N', 'a', 'm', 'e', 'P', 'l', 'a', 'c', 'e', 's', 'M', 'a', 't', 'c', 'h', 'e', 's', 'M', 'o', 'd', 'e', 'l', ' ', 'e', 'x', 'a', 'm', 'p', 'l', 'e', '.', 'c', 'o', 'm', '/', 's', 'h', 'e', 'l', 'l', 'w', 'r', 'i', 'g', 'h', 't', '/', 's', 'h', 'e', 'l', 'l', 'w', 'r', 'i', 'g', 'h', 't', '/', 'z', 'z', 'l', 'a', 'w', 's', '_', 'p', 'k', 'g', '_', 'p', 'o', 'l', 'i', 'c', 'y', '_', 'b', '1', '.', 'F', 'n', 'N', 'a', 'm', 'e', 'P', 'l', 'a', 'c', 'e', 's', 'F', 'o', 'l', 'd', 'W', 'i', 'd', 'e', 'n', 's', 'O', 'n', 'l', 'y', 'B', 'y', 'C', 'a', 's', 'e', ' ', 'e', 'x', 'a', 'm', 'p', 'l', 'e', '.', 'c', 'o', 'm', '/', 's', 'h', 'e', 'l', 'l', 'w', 'r', 'i', 'g', 'h', 't', '/', 's', 'h', 'e', 'l', 'l', 'w', 'r', 'i', 'g', 'h', 't', '/', 'z', 'z', 'l', 'a', 'w', 's', '_', 'p', 'k', 'g', '_', 'p', 'o', 'l', 'i', 'c', 'y', '_', 'b', '1', '.', 'F', 'n', 'N', 'a', 'm', 'e', 'P', 'l', 'a', 'c', 'e', 's', 'W', 'e', 'l', 'l', 'F', 'o', 'r', 'm', 'e', 'd', ' ', 'e', 'x', 'a', 'm', 'p', 'l', 'e', '.', 'c', 'o', 'm', '/', 's', 'h', 'e', 'l', 'l', 'w', 'r', 'i', 'g', 'h', 't', '/', 's', 'h', 'e', 'l', 'l', 'w', 'r', 'i', 'g', 'h', 't', '/', 'z', 'z', 'l', 'a', 'w', 's', '_', 'p', 'k', 'g', '_', 'p', 'o', 'l', 'i', 'c', 'y', '_', 'b', '1', '.', 'F', 'n', 'P', 'a', 'r', 's', 'e', 'D', 'e', 'c', 'i', 'm', 'a', 'l', 'R', 'e', 'a', 'd', 's', 'W', 'h', 'a', 't', 'I', 's', 'W', 'r', 'i', 't', 't', 'e', 'n', ' ', 'e', 'x', 'a', 'm', 'p', 'l', 'e', '.', 'c', 'o', 'm', '/', 's', 'h', 'e', 'l', 'l', 'w', 'r', 'i', 'g', 'h', 't', '/', 's', 'h', 'e', 'l', 'l', 'w', 'r', 'i', 'g', 'h', 't', '/', 'z', 'z', 'l', 'a', 'w', 's', '_', 'p', 'k', 'g', '_', 'p', 'o', 'l', 'i', 'c', 'y', '_', 'b', '1', '.', 'F', 'n', 'P', 'a', 'r', 's', 'e', 'D', 'e', 'c', 'i', 'm', 'a', 'l', 'S', 'i', 'g', 'n', 's', 'A', 'g', 'r', 'e', 'e']
def sumSigns : List Char := ['9', 'd', '4', '5', '2', '9', '1', '0', '9', '6', '3', 'b', '7', 'a', '7', 'c', 'd', '9', '9', '8', '2', '9', 'e', '5', 'f', '1', 'c', '7', 'c', 'd', 'c', 'a', '5', '1', 'f', '6', '1', '0', '3', 'b', '4', '3', '6', '5', '6', '0', 'f', '7', 'e', '5', '0', '7', '3', 'b', 'c', 'c', '9', '3', 'c', '6', 'a', '8', 'e', '0']
def headSigns : List Char := ['h', 'a', 'r', 'n', 'e', 's', 's'] ++ ' ' :: (sumSigns ++ ' ' :: (['c', 'u', 't'] ++ ' ' :: restSigns))
theorem head_list : Try.prog.initOrder.toList = headSigns := @String.toList_ofList headSigns
theorem words_cut (w r : List Char) (h : ∀ c ∈ w, c ≠ ' ') : wordsSigns (w ++ ' ' :: r) = w :: wordsSigns r := by
  induction w with
  | nil => rfl
  | cons c w ih =>
    have hc : c ≠ ' ' := h c (by simp)
    rw [List.cons_append, wordsSigns, ih (fun x hx => h x (by simp [hx]))]
    exact fun e => hc e
theorem head_words : wordsSigns Try.prog.initOrder.toList = ['h', 'a', 'r', 'n', 'e', 's', 's'] :: sumSigns :: ['c', 'u', 't'] :: wordsSigns restSigns := by
  rw [head_list, headSigns, words_cut _ _ (by decide), words_cut _ _ (by unfold sumSigns; decide), words_cut _ _ (by decide)]
theorem head_behind : behindMainWord (wordsSigns Try.prog.initOrder.toList) = ['c', 'u', 't'] :: wordsSigns restSigns := by
  rw [head_words]
  generalize wordsSigns restSigns = r
  kernel_rfl
theorem mayEnter_of (P : Program) (r : List (List Char)) (h : behindMainWord (wordsSigns P.initOrder.toList) = ['c', 'u', 't'] :: r) (h1 : P.laysLater = false) (h2 : P.bearsReflect = false) (h3 : P.doorFits [] = true) : P.mayEnter = true := by
  have e1 : stripLifts liftWords (['c', 'u', 't'] :: r) = ([], ['c', 'u', 't'] :: r) := by kernel_rfl
  have e2 : ((['c', 'u', 't'] :: r).head? == some "cut".toList) = true := by kernel_rfl
  unfold Program.mayEnter
  rw [h]
  dsimp only
  rw [e1, h1, h2]
  dsimp only
  rw [e2, h3]
  simp
theorem cut_same : (some Make.cut == some Make.cut) = true := by kernel_rfl
theorem make_of (P : Program) (r : List (List Char)) (m : Make) (h : behindMainWord (wordsSigns P.initOrder.toList) = ['c', 'u', 't'] :: r) (hm : m = .cut) : (P.make == some m) = true := by
  have e1 : (['c', 'u', 't'] == "gc".toList || ['c', 'u', 't'] == "spec".toList) = false := by kernel_rfl
  have e2 : (['c', 'u', 't'] == "cut".toList || (['c', 'u', 't'] == "finals".toList && r.head? == some "cut".toList)) = true := by kernel_rfl
  have e : P.make = some .cut := by
    unfold Program.make
    rw [h]
    dsimp only
    rw [e1, e2]
    rfl
  rw [e, hm]
  exact cut_same
theorem carried_not (r : List (List Char)) : ((['c', 'u', 't'] :: r).head? == some "carried".toList) = false := by kernel_rfl
theorem cut_head (r : List (List Char)) : ((['c', 'u', 't'] :: r).head? == some "cut".toList) = true := by kernel_rfl
theorem strip_cut (r : List (List Char)) : stripLifts liftWords (['c', 'u', 't'] :: r) = ([], ['c', 'u', 't'] :: r) := by kernel_rfl
theorem lifts_of (P : Program) (r : List (List Char)) (b : Bool) (h : behindMainWord (wordsSigns P.initOrder.toList) = ['c', 'u', 't'] :: r) (hb : b = false) : (b == P.liftsFinal) = true := by
  have e : P.liftsFinal = false := by
    unfold Program.liftsFinal Program.headLifts
    rw [h]
    dsimp only
    rw [carried_not, strip_cut]
    dsimp only
    rw [cut_head]
    rfl
  rw [e, hb]
  rfl
theorem kL : Try.prog.laysLater = false := by kernel_rfl
theorem kR : Try.prog.bearsReflect = false := by kernel_rfl
theorem kD : Try.prog.doorFits [] = true := by kernel_rfl
theorem k0 : (Rows.fnMarkBracketsPairsAndSettlesRow.wf (OpenSpec.ofChange Rows.fnMarkBracketsPairsAndSettlesSpec)) = true := by kernel_rfl
theorem k1 : (laidOutB Try.prog) = true := by kernel_rfl
theorem k2 : (mapsRowed Try.prog) = true := by kernel_rfl
theorem k3 : (Try.f5.params.all (Try.prog.readableRec ·)) = true := by kernel_rfl
theorem k4 : (namedTie Try.prog Rows.fnMarkBracketsPairsAndSettlesRow.named Rows.fnMarkBracketsPairsAndSettlesSpec.vars) = true := by kernel_rfl
theorem k5 : ((Rows.fnMarkBracketsPairsAndSettlesRow.stops == [])) = true := by kernel_rfl
theorem k6 : ((Try.prog.stops == [])) = true := by kernel_rfl
theorem k7 : ((Rows.fnMarkBracketsPairsAndSettlesRow.knobs == [])) = true := by kernel_rfl
theorem k8 : ((Try.prog.stopKnobs == [])) = true := by kernel_rfl
theorem k9 : ((Rows.fnMarkBracketsPairsAndSettlesRow.inPlace == Try.prog.inPlace 5)) = true := by kernel_rfl
theorem k10 : ((Rows.fnMarkBracketsPairsAndSettlesRow.unfollowed == Try.prog.unfollowed 5)) = true := by kernel_rfl
theorem k11 : ((Rows.fnMarkBracketsPairsAndSettlesRow.recurses == Try.prog.recurses 5)) = true := by kernel_rfl
theorem k12 : ((Rows.fnMarkBracketsPairsAndSettlesRow.named == Try.prog.varsNamed 5)) = true := by kernel_rfl
theorem k13 : ((Rows.fnMarkBracketsPairsAndSettlesRow.maps == (Try.f5.params.toList ++ Rows.fnMarkBracketsPairsAndSettlesSpec.plain.varTypes Try.prog).any (Try.prog.mapsRec ·))) = true := by kernel_rfl
theorem k14 : ((Rows.fnMarkBracketsPairsAndSettlesRow.ifaces == (Try.f5.params.toList ++ Rows.fnMarkBracketsPairsAndSettlesSpec.plain.varTypes Try.prog).any (Try.prog.ifacesRec ·))) = true := by kernel_rfl
theorem k15 : ((Rows.fnMarkBracketsPairsAndSettlesRow.mapsOut == Try.prog.mapsAmong Try.f5.resultTypes.toList)) = true := by kernel_rfl
theorem k16 : ((Rows.fnMarkBracketsPairsAndSettlesRow.loops == (Try.f5.params.toList ++ Rows.fnMarkBracketsPairsAndSettlesSpec.plain.varTypes Try.prog).any (Try.prog.loopsFrom ·))) = true := by kernel_rfl
theorem k17 : ((Rows.fnMarkBracketsPairsAndSettlesRow.wideKeys == (Try.f5.params.toList ++ Rows.fnMarkBracketsPairsAndSettlesSpec.plain.varTypes Try.prog ++ Try.f5.resultTypes.toList).any (Try.prog.wideKeysFrom ·))) = true := by kernel_rfl
theorem k18 : (Rows.fnMarkBracketsPairsAndSettlesSpec.vars.all (Try.prog.varReadable ·)) = true := by kernel_rfl
theorem k19 : (Try.f5.resultTypes.all (fun t => Try.prog.readableRec t && decide (t < Try.prog.types.size))) = true := by kernel_rfl
theorem k20 : ((Rows.fnMarkBracketsPairsAndSettlesRow.ifacesOut == Try.f5.resultTypes.toList.any (Try.prog.ifacesRec ·))) = true := by kernel_rfl
theorem k21 : ((Rows.fnMarkBracketsPairsAndSettlesRow.loopsOut == Try.f5.resultTypes.toList.any (Try.prog.loopsFrom ·))) = true := by kernel_rfl
theorem k22 : ((Rows.fnMarkBracketsPairsAndSettlesRow.plainKeys == Try.prog.plainKeys)) = true := by kernel_rfl
theorem k23 : (Rows.fnMarkBracketsPairsAndSettlesRow.shortTexts.isNone) = true := by kernel_rfl
theorem k24 : (Try.prog.stopsHeard) = true := by kernel_rfl
theorem k25 : (Try.prog.mayEnter) = true := mayEnter_of Try.prog _ head_behind kL kR kD
theorem k26 : ((Rows.fnMarkBracketsPairsAndSettlesRow.lifted == Try.prog.liftsFinal)) = true := lifts_of Try.prog _ _ head_behind (by kernel_rfl)
theorem k27 : ((Try.prog.make == some Rows.fnMarkBracketsPairsAndSettlesRow.make)) = true := make_of Try.prog _ _ head_behind (by kernel_rfl)
theorem k28 : ((Rows.fnMarkBracketsPairsAndSettlesRow.kinds == (if Rows.fnMarkBracketsPairsAndSettlesRow.domain.isEmpty then [] else Try.f5.params.toList.map fun t => match Try.prog.underlying t with | some (.int k) => some k | _ => none))) = true := by kernel_rfl
theorem k29 : ((Rows.fnMarkBracketsPairsAndSettlesRow.pinned == Rows.fnMarkBracketsPairsAndSettlesRow.pinnedBy)) = true := by kernel_rfl
theorem k30 : ((Rows.fnMarkBracketsPairsAndSettlesRow.veiled == (Try.f5.params.toList ++ Rows.fnMarkBracketsPairsAndSettlesSpec.plain.varTypes Try.prog ++ Try.f5.resultTypes.toList).any (Try.prog.veiledRec ·))) = true := by kernel_rfl
theorem k31 : (Rows.fnMarkBracketsPairsAndSettlesRow.veiledFits Try.prog Try.f5.params.toList (Try.f5.params.toList ++ Rows.fnMarkBracketsPairsAndSettlesSpec.plain.varTypes Try.prog ++ Try.f5.resultTypes.toList)) = true := by kernel_rfl
theorem closed : joinedFacts Try.pinned.checked.prog 5 Try.f5 Rows.fnMarkBracketsPairsAndSettlesSpec Rows.fnMarkBracketsPairsAndSettlesRow = true := by
  show joinedFacts Try.prog 5 Try.f5 Rows.fnMarkBracketsPairsAndSettlesSpec Rows.fnMarkBracketsPairsAndSettlesRow = true
  unfold joinedFacts
  simp only [Bool.and_eq_true]
  exact ⟨⟨⟨⟨⟨⟨⟨⟨⟨⟨⟨⟨⟨⟨⟨⟨⟨⟨⟨⟨⟨⟨⟨⟨⟨⟨⟨⟨⟨⟨⟨k0, k1⟩, k2⟩, k3⟩, k4⟩, k5⟩, k6⟩, k7⟩, k8⟩, k9⟩, k10⟩, k11⟩, k12⟩, k13⟩, k14⟩, k15⟩, k16⟩, k17⟩, k18⟩, k19⟩, k20⟩, k21⟩, k22⟩, k23⟩, k24⟩, k25⟩, k26⟩, k27⟩, k28⟩, k29⟩, k30⟩, k31⟩
end Go.Proofs.Qxb6601350a.settlesFacts
