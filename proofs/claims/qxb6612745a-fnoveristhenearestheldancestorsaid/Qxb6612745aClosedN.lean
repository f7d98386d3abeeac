/-
  THE CLOSED FACTS of the row of FnOverIsTheNearestHeldAncestor, one a theorem: each by the kernel's own evaluation (three of them out of Qxb6612745aHead.lean).
-/
import Derived.Test.Qxb6612745aHead
namespace Go.Proofs.Qxb6612745a
open Go
theorem and_yesN {a b : Bool} (h1 : a = true) (h2 : b = true) : (a && b) = true := by rw [h1, h2]; rfl
theorem cn1 : (Rows.fnOverIsTheNearestHeldAncestorRow.wf (OpenSpec.ofChange Rows.fnOverIsTheNearestHeldAncestorSpec)) = true := by kernel_rfl
theorem cn2 : (laidOutB Try.prog) = true := by kernel_rfl
theorem cn3 : (mapsRowed Try.prog) = true := by kernel_rfl
theorem cn4 : (Try.f9.params.all (Try.prog.readableRec ·)) = true := by kernel_rfl
theorem cn5 : (namedTie Try.prog Rows.fnOverIsTheNearestHeldAncestorRow.named Rows.fnOverIsTheNearestHeldAncestorSpec.vars) = true := by kernel_rfl
theorem cn6 : ((Rows.fnOverIsTheNearestHeldAncestorRow.stops == [])) = true := by kernel_rfl
theorem cn7 : ((Try.prog.stops == [])) = true := by kernel_rfl
theorem cn8 : ((Rows.fnOverIsTheNearestHeldAncestorRow.knobs == [])) = true := by kernel_rfl
theorem cn9 : ((Try.prog.stopKnobs == [])) = true := by kernel_rfl
theorem cn10 : ((Rows.fnOverIsTheNearestHeldAncestorRow.inPlace == Try.prog.inPlace 9)) = true := by kernel_rfl
theorem cn11 : ((Rows.fnOverIsTheNearestHeldAncestorRow.unfollowed == Try.prog.unfollowed 9)) = true := by kernel_rfl
theorem cn12 : ((Rows.fnOverIsTheNearestHeldAncestorRow.recurses == Try.prog.recurses 9)) = true := by kernel_rfl
theorem cn13 : ((Rows.fnOverIsTheNearestHeldAncestorRow.named == Try.prog.varsNamed 9)) = true := by kernel_rfl
theorem cn14 : ((Rows.fnOverIsTheNearestHeldAncestorRow.maps == (Try.f9.params.toList ++ Rows.fnOverIsTheNearestHeldAncestorSpec.plain.varTypes Try.prog).any (Try.prog.mapsRec ·))) = true := by kernel_rfl
theorem cn15 : ((Rows.fnOverIsTheNearestHeldAncestorRow.ifaces == (Try.f9.params.toList ++ Rows.fnOverIsTheNearestHeldAncestorSpec.plain.varTypes Try.prog).any (Try.prog.ifacesRec ·))) = true := by kernel_rfl
theorem cn16 : ((Rows.fnOverIsTheNearestHeldAncestorRow.mapsOut == Try.prog.mapsAmong Try.f9.resultTypes.toList)) = true := by kernel_rfl
theorem cn17 : ((Rows.fnOverIsTheNearestHeldAncestorRow.loops == (Try.f9.params.toList ++ Rows.fnOverIsTheNearestHeldAncestorSpec.plain.varTypes Try.prog).any (Try.prog.loopsFrom ·))) = true := by kernel_rfl
theorem cn18 : ((Rows.fnOverIsTheNearestHeldAncestorRow.wideKeys == (Try.f9.params.toList ++ Rows.fnOverIsTheNearestHeldAncestorSpec.plain.varTypes Try.prog ++ Try.f9.resultTypes.toList).any (Try.prog.wideKeysFrom ·))) = true := by kernel_rfl
theorem cn19 : (Rows.fnOverIsTheNearestHeldAncestorSpec.vars.all (Try.prog.varReadable ·)) = true := by kernel_rfl
theorem cn20 : (Try.f9.resultTypes.all (fun t => Try.prog.readableRec t && decide (t < Try.prog.types.size))) = true := by kernel_rfl
theorem cn21 : ((Rows.fnOverIsTheNearestHeldAncestorRow.ifacesOut == Try.f9.resultTypes.toList.any (Try.prog.ifacesRec ·))) = true := by kernel_rfl
theorem cn22 : ((Rows.fnOverIsTheNearestHeldAncestorRow.loopsOut == Try.f9.resultTypes.toList.any (Try.prog.loopsFrom ·))) = true := by kernel_rfl
theorem cn23 : ((Rows.fnOverIsTheNearestHeldAncestorRow.plainKeys == Try.prog.plainKeys)) = true := by kernel_rfl
theorem cn24 : (Rows.fnOverIsTheNearestHeldAncestorRow.shortTexts.isNone) = true := by kernel_rfl
theorem cn25 : (Try.prog.stopsHeard) = true := by kernel_rfl
theorem cn26 : (Try.prog.mayEnter) = true := greatA
theorem cn27 : ((Rows.fnOverIsTheNearestHeldAncestorRow.lifted == Try.prog.liftsFinal)) = true := greatB
theorem cn28 : ((Try.prog.make == some Rows.fnOverIsTheNearestHeldAncestorRow.make)) = true := greatC
theorem cn29 : ((Rows.fnOverIsTheNearestHeldAncestorRow.kinds == (if Rows.fnOverIsTheNearestHeldAncestorRow.domain.isEmpty then [] else Try.f9.params.toList.map fun t => match Try.prog.underlying t with | some (.int k) => some k | _ => none))) = true := by kernel_rfl
theorem cn30 : ((Rows.fnOverIsTheNearestHeldAncestorRow.pinned == Rows.fnOverIsTheNearestHeldAncestorRow.pinnedBy)) = true := by kernel_rfl
theorem cn31 : ((Rows.fnOverIsTheNearestHeldAncestorRow.veiled == (Try.f9.params.toList ++ Rows.fnOverIsTheNearestHeldAncestorSpec.plain.varTypes Try.prog ++ Try.f9.resultTypes.toList).any (Try.prog.veiledRec ·))) = true := by kernel_rfl
theorem cn32 : (Rows.fnOverIsTheNearestHeldAncestorRow.veiledFits Try.prog Try.f9.params.toList (Try.f9.params.toList ++ Rows.fnOverIsTheNearestHeldAncestorSpec.plain.varTypes Try.prog ++ Try.f9.resultTypes.toList)) = true := by kernel_rfl
theorem cnall : joinedFacts Try.prog 9 Try.f9 Rows.fnOverIsTheNearestHeldAncestorSpec Rows.fnOverIsTheNearestHeldAncestorRow = true := (and_yesN (and_yesN (and_yesN (and_yesN (and_yesN (and_yesN (and_yesN (and_yesN (and_yesN (and_yesN (and_yesN (and_yesN (and_yesN (and_yesN (and_yesN (and_yesN (and_yesN (and_yesN (and_yesN (and_yesN (and_yesN (and_yesN (and_yesN (and_yesN (and_yesN (and_yesN (and_yesN (and_yesN (and_yesN (and_yesN (and_yesN cn1 cn2) cn3) cn4) cn5) cn6) cn7) cn8) cn9) cn10) cn11) cn12) cn13) cn14) cn15) cn16) cn17) cn18) cn19) cn20) cn21) cn22) cn23) cn24) cn25) cn26) cn27) cn28) cn29) cn30) cn31) cn32)
end Go.Proofs.Qxb6612745a
