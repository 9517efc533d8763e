import Derived.Test.Qxb6601350aRows
import Derived.JoinedOf
namespace Go.Proofs.Qxb6601350a.settlesFacts
theorem k0 : (Rows.fnMarkBracketsPairsAndSettlesRow.wf (OpenSpec.ofChange Rows.fnMarkBracketsPairsAndSettlesSpec)) = true := by kernel_rfl
theorem k1 : (laidOutB Try.prog) = true := by kernel_rfl
theorem k2 : (mapsRowed Try.prog) = true := by kernel_rfl
theorem k3 : (Try.f5.params.all (Try.prog.readableRec ·)) = true := by kernel_rfl
theorem k4 : (namedTie Try.prog Rows.fnMarkBracketsPairsAndSettlesRow.named Rows.fnMarkBracketsPairsAndSettlesSpec.vars) = true := by kernel_rfl
theorem k5 : ((Rows.fnMarkBracketsPairsAndSettlesRow.stops == [])) = true := by kernel_rfl
theorem k6 : ((Try.prog.stops == [])) = true := by kernel_rfl
theorem k7 : ((Rows.fnMarkBracketsPairsAndSettlesRow.knobs == [])) = true := by kernel_rfl
theorem k8 : ((Try.prog.stopKnobs == [])) = true := by kernel_rfl
theorem k9 : ((Rows.fnMarkBracketsPairsAndSettlesRow.inPlace == Try.prog.inPlace 5)) = true := by kernel_rfl
theorem k10 : ((Rows.fnMarkBracketsPairsAndSettlesRow.unfollowed == Try.prog.unfollowed 5)) = true := by kernel_rfl
theorem k11 : ((Rows.fnMarkBracketsPairsAndSettlesRow.recurses == Try.prog.recurses 5)) = true := by kernel_rfl
theorem k12 : ((Rows.fnMarkBracketsPairsAndSettlesRow.named == Try.prog.varsNamed 5)) = true := by kernel_rfl
theorem k13 : ((Rows.fnMarkBracketsPairsAndSettlesRow.maps == (Try.f5.params.toList ++ Rows.fnMarkBracketsPairsAndSettlesSpec.plain.varTypes Try.prog).any (Try.prog.mapsRec ·))) = true := by kernel_rfl
theorem k14 : ((Rows.fnMarkBracketsPairsAndSettlesRow.ifaces == (Try.f5.params.toList ++ Rows.fnMarkBracketsPairsAndSettlesSpec.plain.varTypes Try.prog).any (Try.prog.ifacesRec ·))) = true := by kernel_rfl
theorem k15 : ((Rows.fnMarkBracketsPairsAndSettlesRow.mapsOut == Try.prog.mapsAmong Try.f5.resultTypes.toList)) = true := by kernel_rfl
theorem k16 : ((Rows.fnMarkBracketsPairsAndSettlesRow.loops == (Try.f5.params.toList ++ Rows.fnMarkBracketsPairsAndSettlesSpec.plain.varTypes Try.prog).any (Try.prog.loopsFrom ·))) = true := by kernel_rfl
theorem k17 : ((Rows.fnMarkBracketsPairsAndSettlesRow.wideKeys == (Try.f5.params.toList ++ Rows.fnMarkBracketsPairsAndSettlesSpec.plain.varTypes Try.prog ++ Try.f5.resultTypes.toList).any (Try.prog.wideKeysFrom ·))) = true := by kernel_rfl
theorem k18 : (Rows.fnMarkBracketsPairsAndSettlesSpec.vars.all (Try.prog.varReadable ·)) = true := by kernel_rfl
theorem k19 : (Try.f5.resultTypes.all (fun t => Try.prog.readableRec t && decide (t < Try.prog.types.size))) = true := by kernel_rfl
theorem k20 : ((Rows.fnMarkBracketsPairsAndSettlesRow.ifacesOut == Try.f5.resultTypes.toList.any (Try.prog.ifacesRec ·))) = true := by kernel_rfl
theorem k21 : ((Rows.fnMarkBracketsPairsAndSettlesRow.loopsOut == Try.f5.resultTypes.toList.any (Try.prog.loopsFrom ·))) = true := by kernel_rfl
theorem k22 : ((Rows.fnMarkBracketsPairsAndSettlesRow.plainKeys == Try.prog.plainKeys)) = true := by kernel_rfl
theorem k23 : (Rows.fnMarkBracketsPairsAndSettlesRow.shortTexts.isNone) = true := by kernel_rfl
theorem k24 : (Try.prog.stopsHeard) = true := by kernel_rfl
theorem k25 : (Try.prog.mayEnter) = true := by kernel_rfl
theorem k26 : ((Rows.fnMarkBracketsPairsAndSettlesRow.lifted == Try.prog.liftsFinal)) = true := by kernel_rfl
theorem k27 : ((Try.prog.make == some Rows.fnMarkBracketsPairsAndSettlesRow.make)) = true := by kernel_rfl
theorem k28 : ((Rows.fnMarkBracketsPairsAndSettlesRow.kinds == (if Rows.fnMarkBracketsPairsAndSettlesRow.domain.isEmpty then [] else Try.f5.params.toList.map fun t => match Try.prog.underlying t with | some (.int k) => some k | _ => none))) = true := by kernel_rfl
theorem k29 : ((Rows.fnMarkBracketsPairsAndSettlesRow.pinned == Rows.fnMarkBracketsPairsAndSettlesRow.pinnedBy)) = true := by kernel_rfl
theorem k30 : ((Rows.fnMarkBracketsPairsAndSettlesRow.veiled == (Try.f5.params.toList ++ Rows.fnMarkBracketsPairsAndSettlesSpec.plain.varTypes Try.prog ++ Try.f5.resultTypes.toList).any (Try.prog.veiledRec ·))) = true := by kernel_rfl
theorem k31 : (Rows.fnMarkBracketsPairsAndSettlesRow.veiledFits Try.prog Try.f5.params.toList (Try.f5.params.toList ++ Rows.fnMarkBracketsPairsAndSettlesSpec.plain.varTypes Try.prog ++ Try.f5.resultTypes.toList)) = true := by kernel_rfl
theorem closed : joinedFacts Try.pinned.checked.prog 5 Try.f5 Rows.fnMarkBracketsPairsAndSettlesSpec Rows.fnMarkBracketsPairsAndSettlesRow = true := by
  show joinedFacts Try.prog 5 Try.f5 Rows.fnMarkBracketsPairsAndSettlesSpec Rows.fnMarkBracketsPairsAndSettlesRow = true
  unfold joinedFacts
  simp only [Bool.and_eq_true]
  exact ⟨⟨⟨⟨⟨⟨⟨⟨⟨⟨⟨⟨⟨⟨⟨⟨⟨⟨⟨⟨⟨⟨⟨⟨⟨⟨⟨⟨⟨⟨⟨k0, k1⟩, k2⟩, k3⟩, k4⟩, k5⟩, k6⟩, k7⟩, k8⟩, k9⟩, k10⟩, k11⟩, k12⟩, k13⟩, k14⟩, k15⟩, k16⟩, k17⟩, k18⟩, k19⟩, k20⟩, k21⟩, k22⟩, k23⟩, k24⟩, k25⟩, k26⟩, k27⟩, k28⟩, k29⟩, k30⟩, k31⟩
end Go.Proofs.Qxb6601350a.settlesFacts
