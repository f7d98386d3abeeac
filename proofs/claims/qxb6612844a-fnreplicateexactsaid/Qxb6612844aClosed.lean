/-
  THE CLOSED FACTS of the row of FnReplicateExact, one a theorem: each by the kernel's own evaluation (three of them out of Qxb6612844aHead.lean).
-/
import Derived.Test.Qxb6612844aHead
namespace Go.Proofs.Qxb6612844a
open Go
theorem and_yesR {a b : Bool} (h1 : a = true) (h2 : b = true) : (a && b) = true := by rw [h1, h2]; rfl
theorem cr1 : (Rows.fnReplicateExactRow.wf (OpenSpec.ofChange Rows.fnReplicateExactSpec)) = true := by kernel_rfl
theorem cr2 : (laidOutB Try.prog) = true := by kernel_rfl
theorem cr3 : (mapsRowed Try.prog) = true := by kernel_rfl
theorem cr4 : (Try.f8.params.all (Try.prog.readableRec ·)) = true := by kernel_rfl
theorem cr5 : (namedTie Try.prog Rows.fnReplicateExactRow.named Rows.fnReplicateExactSpec.vars) = true := by kernel_rfl
theorem cr6 : ((Rows.fnReplicateExactRow.stops == [])) = true := by kernel_rfl
theorem cr7 : ((Try.prog.stops == [])) = true := by kernel_rfl
theorem cr8 : ((Rows.fnReplicateExactRow.knobs == [])) = true := by kernel_rfl
theorem cr9 : ((Try.prog.stopKnobs == [])) = true := by kernel_rfl
theorem cr10 : ((Rows.fnReplicateExactRow.inPlace == Try.prog.inPlace 8)) = true := by kernel_rfl
theorem cr11 : ((Rows.fnReplicateExactRow.unfollowed == Try.prog.unfollowed 8)) = true := by kernel_rfl
theorem cr12 : ((Rows.fnReplicateExactRow.recurses == Try.prog.recurses 8)) = true := by kernel_rfl
theorem cr13 : ((Rows.fnReplicateExactRow.named == Try.prog.varsNamed 8)) = true := by kernel_rfl
theorem cr14 : ((Rows.fnReplicateExactRow.maps == (Try.f8.params.toList ++ Rows.fnReplicateExactSpec.plain.varTypes Try.prog).any (Try.prog.mapsRec ·))) = true := by kernel_rfl
theorem cr15 : ((Rows.fnReplicateExactRow.ifaces == (Try.f8.params.toList ++ Rows.fnReplicateExactSpec.plain.varTypes Try.prog).any (Try.prog.ifacesRec ·))) = true := by kernel_rfl
theorem cr16 : ((Rows.fnReplicateExactRow.mapsOut == Try.prog.mapsAmong Try.f8.resultTypes.toList)) = true := by kernel_rfl
theorem cr17 : ((Rows.fnReplicateExactRow.loops == (Try.f8.params.toList ++ Rows.fnReplicateExactSpec.plain.varTypes Try.prog).any (Try.prog.loopsFrom ·))) = true := by kernel_rfl
theorem cr18 : ((Rows.fnReplicateExactRow.wideKeys == (Try.f8.params.toList ++ Rows.fnReplicateExactSpec.plain.varTypes Try.prog ++ Try.f8.resultTypes.toList).any (Try.prog.wideKeysFrom ·))) = true := by kernel_rfl
theorem cr19 : (Rows.fnReplicateExactSpec.vars.all (Try.prog.varReadable ·)) = true := by kernel_rfl
theorem cr20 : (Try.f8.resultTypes.all (fun t => Try.prog.readableRec t && decide (t < Try.prog.types.size))) = true := by kernel_rfl
theorem cr21 : ((Rows.fnReplicateExactRow.ifacesOut == Try.f8.resultTypes.toList.any (Try.prog.ifacesRec ·))) = true := by kernel_rfl
theorem cr22 : ((Rows.fnReplicateExactRow.loopsOut == Try.f8.resultTypes.toList.any (Try.prog.loopsFrom ·))) = true := by kernel_rfl
theorem cr23 : ((Rows.fnReplicateExactRow.plainKeys == Try.prog.plainKeys)) = true := by kernel_rfl
theorem cr24 : (Rows.fnReplicateExactRow.shortTexts.isNone) = true := by kernel_rfl
theorem cr25 : (Try.prog.stopsHeard) = true := by kernel_rfl
theorem cr26 : (Try.prog.mayEnter) = true := greatA
theorem cr27 : ((Rows.fnReplicateExactRow.lifted == Try.prog.liftsFinal)) = true := greatB
theorem cr28 : ((Try.prog.make == some Rows.fnReplicateExactRow.make)) = true := greatC
theorem cr29 : ((Rows.fnReplicateExactRow.kinds == (if Rows.fnReplicateExactRow.domain.isEmpty then [] else Try.f8.params.toList.map fun t => match Try.prog.underlying t with | some (.int k) => some k | _ => none))) = true := by kernel_rfl
theorem cr30 : ((Rows.fnReplicateExactRow.pinned == Rows.fnReplicateExactRow.pinnedBy)) = true := by kernel_rfl
theorem cr31 : ((Rows.fnReplicateExactRow.veiled == (Try.f8.params.toList ++ Rows.fnReplicateExactSpec.plain.varTypes Try.prog ++ Try.f8.resultTypes.toList).any (Try.prog.veiledRec ·))) = true := by kernel_rfl
theorem cr32 : (Rows.fnReplicateExactRow.veiledFits Try.prog Try.f8.params.toList (Try.f8.params.toList ++ Rows.fnReplicateExactSpec.plain.varTypes Try.prog ++ Try.f8.resultTypes.toList)) = true := by kernel_rfl
set_option maxRecDepth 100000 in
theorem crall : joinedFacts Try.prog 8 Try.f8 Rows.fnReplicateExactSpec Rows.fnReplicateExactRow = true := (and_yesR (and_yesR (and_yesR (and_yesR (and_yesR (and_yesR (and_yesR (and_yesR (and_yesR (and_yesR (and_yesR (and_yesR (and_yesR (and_yesR (and_yesR (and_yesR (and_yesR (and_yesR (and_yesR (and_yesR (and_yesR (and_yesR (and_yesR (and_yesR (and_yesR (and_yesR (and_yesR (and_yesR (and_yesR (and_yesR (and_yesR cr1 cr2) cr3) cr4) cr5) cr6) cr7) cr8) cr9) cr10) cr11) cr12) cr13) cr14) cr15) cr16) cr17) cr18) cr19) cr20) cr21) cr22) cr23) cr24) cr25) cr26) cr27) cr28) cr29) cr30) cr31) cr32)
end Go.Proofs.Qxb6612844a
