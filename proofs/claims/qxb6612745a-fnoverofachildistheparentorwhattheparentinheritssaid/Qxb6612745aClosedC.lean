/-
  THE CLOSED FACTS of the row of FnOverOfAChildIsTheParentOrWhatTheParentInherits, one a theorem: each by the kernel's own evaluation (three of them out of Qxb6612745aHead.lean).
-/
import Derived.Test.Qxb6612745aHead
namespace Go.Proofs.Qxb6612745a
open Go
theorem and_yesC {a b : Bool} (h1 : a = true) (h2 : b = true) : (a && b) = true := by rw [h1, h2]; rfl
theorem cc1 : (Rows.fnOverOfAChildIsTheParentOrWhatTheParentInheritsRow.wf (OpenSpec.ofChange Rows.fnOverOfAChildIsTheParentOrWhatTheParentInheritsSpec)) = true := by kernel_rfl
theorem cc2 : (laidOutB Try.prog) = true := by kernel_rfl
theorem cc3 : (mapsRowed Try.prog) = true := by kernel_rfl
theorem cc4 : (Try.f10.params.all (Try.prog.readableRec ·)) = true := by kernel_rfl
theorem cc5 : (namedTie Try.prog Rows.fnOverOfAChildIsTheParentOrWhatTheParentInheritsRow.named Rows.fnOverOfAChildIsTheParentOrWhatTheParentInheritsSpec.vars) = true := by kernel_rfl
theorem cc6 : ((Rows.fnOverOfAChildIsTheParentOrWhatTheParentInheritsRow.stops == [])) = true := by kernel_rfl
theorem cc7 : ((Try.prog.stops == [])) = true := by kernel_rfl
theorem cc8 : ((Rows.fnOverOfAChildIsTheParentOrWhatTheParentInheritsRow.knobs == [])) = true := by kernel_rfl
theorem cc9 : ((Try.prog.stopKnobs == [])) = true := by kernel_rfl
theorem cc10 : ((Rows.fnOverOfAChildIsTheParentOrWhatTheParentInheritsRow.inPlace == Try.prog.inPlace 10)) = true := by kernel_rfl
theorem cc11 : ((Rows.fnOverOfAChildIsTheParentOrWhatTheParentInheritsRow.unfollowed == Try.prog.unfollowed 10)) = true := by kernel_rfl
theorem cc12 : ((Rows.fnOverOfAChildIsTheParentOrWhatTheParentInheritsRow.recurses == Try.prog.recurses 10)) = true := by kernel_rfl
theorem cc13 : ((Rows.fnOverOfAChildIsTheParentOrWhatTheParentInheritsRow.named == Try.prog.varsNamed 10)) = true := by kernel_rfl
theorem cc14 : ((Rows.fnOverOfAChildIsTheParentOrWhatTheParentInheritsRow.maps == (Try.f10.params.toList ++ Rows.fnOverOfAChildIsTheParentOrWhatTheParentInheritsSpec.plain.varTypes Try.prog).any (Try.prog.mapsRec ·))) = true := by kernel_rfl
theorem cc15 : ((Rows.fnOverOfAChildIsTheParentOrWhatTheParentInheritsRow.ifaces == (Try.f10.params.toList ++ Rows.fnOverOfAChildIsTheParentOrWhatTheParentInheritsSpec.plain.varTypes Try.prog).any (Try.prog.ifacesRec ·))) = true := by kernel_rfl
theorem cc16 : ((Rows.fnOverOfAChildIsTheParentOrWhatTheParentInheritsRow.mapsOut == Try.prog.mapsAmong Try.f10.resultTypes.toList)) = true := by kernel_rfl
theorem cc17 : ((Rows.fnOverOfAChildIsTheParentOrWhatTheParentInheritsRow.loops == (Try.f10.params.toList ++ Rows.fnOverOfAChildIsTheParentOrWhatTheParentInheritsSpec.plain.varTypes Try.prog).any (Try.prog.loopsFrom ·))) = true := by kernel_rfl
theorem cc18 : ((Rows.fnOverOfAChildIsTheParentOrWhatTheParentInheritsRow.wideKeys == (Try.f10.params.toList ++ Rows.fnOverOfAChildIsTheParentOrWhatTheParentInheritsSpec.plain.varTypes Try.prog ++ Try.f10.resultTypes.toList).any (Try.prog.wideKeysFrom ·))) = true := by kernel_rfl
theorem cc19 : (Rows.fnOverOfAChildIsTheParentOrWhatTheParentInheritsSpec.vars.all (Try.prog.varReadable ·)) = true := by kernel_rfl
theorem cc20 : (Try.f10.resultTypes.all (fun t => Try.prog.readableRec t && decide (t < Try.prog.types.size))) = true := by kernel_rfl
theorem cc21 : ((Rows.fnOverOfAChildIsTheParentOrWhatTheParentInheritsRow.ifacesOut == Try.f10.resultTypes.toList.any (Try.prog.ifacesRec ·))) = true := by kernel_rfl
theorem cc22 : ((Rows.fnOverOfAChildIsTheParentOrWhatTheParentInheritsRow.loopsOut == Try.f10.resultTypes.toList.any (Try.prog.loopsFrom ·))) = true := by kernel_rfl
theorem cc23 : ((Rows.fnOverOfAChildIsTheParentOrWhatTheParentInheritsRow.plainKeys == Try.prog.plainKeys)) = true := by kernel_rfl
theorem cc24 : (Rows.fnOverOfAChildIsTheParentOrWhatTheParentInheritsRow.shortTexts.isNone) = true := by kernel_rfl
theorem cc25 : (Try.prog.stopsHeard) = true := by kernel_rfl
theorem cc26 : (Try.prog.mayEnter) = true := greatA
theorem cc27 : ((Rows.fnOverOfAChildIsTheParentOrWhatTheParentInheritsRow.lifted == Try.prog.liftsFinal)) = true := greatB
theorem cc28 : ((Try.prog.make == some Rows.fnOverOfAChildIsTheParentOrWhatTheParentInheritsRow.make)) = true := greatC
theorem cc29 : ((Rows.fnOverOfAChildIsTheParentOrWhatTheParentInheritsRow.kinds == (if Rows.fnOverOfAChildIsTheParentOrWhatTheParentInheritsRow.domain.isEmpty then [] else Try.f10.params.toList.map fun t => match Try.prog.underlying t with | some (.int k) => some k | _ => none))) = true := by kernel_rfl
theorem cc30 : ((Rows.fnOverOfAChildIsTheParentOrWhatTheParentInheritsRow.pinned == Rows.fnOverOfAChildIsTheParentOrWhatTheParentInheritsRow.pinnedBy)) = true := by kernel_rfl
theorem cc31 : ((Rows.fnOverOfAChildIsTheParentOrWhatTheParentInheritsRow.veiled == (Try.f10.params.toList ++ Rows.fnOverOfAChildIsTheParentOrWhatTheParentInheritsSpec.plain.varTypes Try.prog ++ Try.f10.resultTypes.toList).any (Try.prog.veiledRec ·))) = true := by kernel_rfl
theorem cc32 : (Rows.fnOverOfAChildIsTheParentOrWhatTheParentInheritsRow.veiledFits Try.prog Try.f10.params.toList (Try.f10.params.toList ++ Rows.fnOverOfAChildIsTheParentOrWhatTheParentInheritsSpec.plain.varTypes Try.prog ++ Try.f10.resultTypes.toList)) = true := by kernel_rfl
theorem ccall : joinedFacts Try.prog 10 Try.f10 Rows.fnOverOfAChildIsTheParentOrWhatTheParentInheritsSpec Rows.fnOverOfAChildIsTheParentOrWhatTheParentInheritsRow = true := (and_yesC (and_yesC (and_yesC (and_yesC (and_yesC (and_yesC (and_yesC (and_yesC (and_yesC (and_yesC (and_yesC (and_yesC (and_yesC (and_yesC (and_yesC (and_yesC (and_yesC (and_yesC (and_yesC (and_yesC (and_yesC (and_yesC (and_yesC (and_yesC (and_yesC (and_yesC (and_yesC (and_yesC (and_yesC (and_yesC (and_yesC cc1 cc2) cc3) cc4) cc5) cc6) cc7) cc8) cc9) cc10) cc11) cc12) cc13) cc14) cc15) cc16) cc17) cc18) cc19) cc20) cc21) cc22) cc23) cc24) cc25) cc26) cc27) cc28) cc29) cc30) cc31) cc32)
end Go.Proofs.Qxb6612745a
