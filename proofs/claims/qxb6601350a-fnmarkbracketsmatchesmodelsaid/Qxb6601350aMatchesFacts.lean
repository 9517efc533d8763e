import Derived.Test.Qxb6601350aRows
import Derived.JoinedOf
import Derived.Test.Qxb6601350aSettlesFacts
namespace Go.Proofs.Qxb6601350a.matchesFacts
theorem k0 : (Rows.fnMarkBracketsMatchesModelRow.wf (OpenSpec.ofChange Rows.fnMarkBracketsMatchesModelSpec)) = true := by kernel_rfl
theorem k1 : (laidOutB Try.prog) = true := settlesFacts.k1
theorem k2 : (mapsRowed Try.prog) = true := settlesFacts.k2
theorem k3 : (Try.f4.params.all (Try.prog.readableRec ·)) = true := by kernel_rfl
theorem k4 : (namedTie Try.prog Rows.fnMarkBracketsMatchesModelRow.named Rows.fnMarkBracketsMatchesModelSpec.vars) = true := by kernel_rfl
theorem k5 : ((Rows.fnMarkBracketsMatchesModelRow.stops == [])) = true := by kernel_rfl
theorem k6 : ((Try.prog.stops == [])) = true := settlesFacts.k6
theorem k7 : ((Rows.fnMarkBracketsMatchesModelRow.knobs == [])) = true := by kernel_rfl
theorem k8 : ((Try.prog.stopKnobs == [])) = true := settlesFacts.k8
theorem k9 : ((Rows.fnMarkBracketsMatchesModelRow.inPlace == Try.prog.inPlace 4)) = true := by kernel_rfl
theorem k10 : ((Rows.fnMarkBracketsMatchesModelRow.unfollowed == Try.prog.unfollowed 4)) = true := by kernel_rfl
theorem k11 : ((Rows.fnMarkBracketsMatchesModelRow.recurses == Try.prog.recurses 4)) = true := by kernel_rfl
theorem k12 : ((Rows.fnMarkBracketsMatchesModelRow.named == Try.prog.varsNamed 4)) = true := by kernel_rfl
theorem k13 : ((Rows.fnMarkBracketsMatchesModelRow.maps == (Try.f4.params.toList ++ Rows.fnMarkBracketsMatchesModelSpec.plain.varTypes Try.prog).any (Try.prog.mapsRec ·))) = true := by kernel_rfl
theorem k14 : ((Rows.fnMarkBracketsMatchesModelRow.ifaces == (Try.f4.params.toList ++ Rows.fnMarkBracketsMatchesModelSpec.plain.varTypes Try.prog).any (Try.prog.ifacesRec ·))) = true := by kernel_rfl
theorem k15 : ((Rows.fnMarkBracketsMatchesModelRow.mapsOut == Try.prog.mapsAmong Try.f4.resultTypes.toList)) = true := by kernel_rfl
theorem k16 : ((Rows.fnMarkBracketsMatchesModelRow.loops == (Try.f4.params.toList ++ Rows.fnMarkBracketsMatchesModelSpec.plain.varTypes Try.prog).any (Try.prog.loopsFrom ·))) = true := by kernel_rfl
theorem k17 : ((Rows.fnMarkBracketsMatchesModelRow.wideKeys == (Try.f4.params.toList ++ Rows.fnMarkBracketsMatchesModelSpec.plain.varTypes Try.prog ++ Try.f4.resultTypes.toList).any (Try.prog.wideKeysFrom ·))) = true := by kernel_rfl
theorem k18 : (Rows.fnMarkBracketsMatchesModelSpec.vars.all (Try.prog.varReadable ·)) = true := by kernel_rfl
theorem k19 : (Try.f4.resultTypes.all (fun t => Try.prog.readableRec t && decide (t < Try.prog.types.size))) = true := by kernel_rfl
theorem k20 : ((Rows.fnMarkBracketsMatchesModelRow.ifacesOut == Try.f4.resultTypes.toList.any (Try.prog.ifacesRec ·))) = true := by kernel_rfl
theorem k21 : ((Rows.fnMarkBracketsMatchesModelRow.loopsOut == Try.f4.resultTypes.toList.any (Try.prog.loopsFrom ·))) = true := by kernel_rfl
theorem k22 : ((Rows.fnMarkBracketsMatchesModelRow.plainKeys == Try.prog.plainKeys)) = true := by kernel_rfl
theorem k23 : (Rows.fnMarkBracketsMatchesModelRow.shortTexts.isNone) = true := by kernel_rfl
theorem k24 : (Try.prog.stopsHeard) = true := settlesFacts.k24
theorem k25 : (Try.prog.mayEnter) = true := settlesFacts.k25
theorem k26 : ((Rows.fnMarkBracketsMatchesModelRow.lifted == Try.prog.liftsFinal)) = true := settlesFacts.k26
theorem k27 : ((Try.prog.make == some Rows.fnMarkBracketsMatchesModelRow.make)) = true := settlesFacts.k27
theorem k28 : ((Rows.fnMarkBracketsMatchesModelRow.kinds == (if Rows.fnMarkBracketsMatchesModelRow.domain.isEmpty then [] else Try.f4.params.toList.map fun t => match Try.prog.underlying t with | some (.int k) => some k | _ => none))) = true := by kernel_rfl
theorem k29 : ((Rows.fnMarkBracketsMatchesModelRow.pinned == Rows.fnMarkBracketsMatchesModelRow.pinnedBy)) = true := by kernel_rfl
theorem k30 : ((Rows.fnMarkBracketsMatchesModelRow.veiled == (Try.f4.params.toList ++ Rows.fnMarkBracketsMatchesModelSpec.plain.varTypes Try.prog ++ Try.f4.resultTypes.toList).any (Try.prog.veiledRec ·))) = true := by kernel_rfl
theorem k31 : (Rows.fnMarkBracketsMatchesModelRow.veiledFits Try.prog Try.f4.params.toList (Try.f4.params.toList ++ Rows.fnMarkBracketsMatchesModelSpec.plain.varTypes Try.prog ++ Try.f4.resultTypes.toList)) = true := by kernel_rfl
theorem closed : joinedFacts Try.pinned.checked.prog 4 Try.f4 Rows.fnMarkBracketsMatchesModelSpec Rows.fnMarkBracketsMatchesModelRow = true := by
  show joinedFacts Try.prog 4 Try.f4 Rows.fnMarkBracketsMatchesModelSpec Rows.fnMarkBracketsMatchesModelRow = true
  unfold joinedFacts
  simp only [Bool.and_eq_true]
  exact ⟨⟨⟨⟨⟨⟨⟨⟨⟨⟨⟨⟨⟨⟨⟨⟨⟨⟨⟨⟨⟨⟨⟨⟨⟨⟨⟨⟨⟨⟨⟨k0, k1⟩, k2⟩, k3⟩, k4⟩, k5⟩, k6⟩, k7⟩, k8⟩, k9⟩, k10⟩, k11⟩, k12⟩, k13⟩, k14⟩, k15⟩, k16⟩, k17⟩, k18⟩, k19⟩, k20⟩, k21⟩, k22⟩, k23⟩, k24⟩, k25⟩, k26⟩, k27⟩, k28⟩, k29⟩, k30⟩, k31⟩
end Go.Proofs.Qxb6601350a.matchesFacts
