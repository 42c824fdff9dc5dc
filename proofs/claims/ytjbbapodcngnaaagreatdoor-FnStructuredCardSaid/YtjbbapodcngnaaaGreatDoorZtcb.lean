/- The closed facts of FnStructured's row, one by one: each by the kernel. -/
import Derived.Test.YtjbbapodcngnaaaGreatDoorZtca
namespace Go.Proofs.YtjbbapodcngnaaaGreatDoor
open Go.ChangeShapes Go.WideShapes Go.RowKit
set_option maxRecDepth 100000

theorem and2 {a b : Bool} (h1 : a = true) (h2 : b = true) : (a && b) = true := by rw [h1, h2]; rfl
theorem jf0 : (Rows.fnStructuredRow.wf (OpenSpec.ofChange Rows.fnStructuredSpec)) = true := by kernel_rfl
theorem jf1 : (laidOutB Tryz.pinned.checked.prog) = true := by kernel_rfl
theorem jf2 : (mapsRowed Tryz.pinned.checked.prog) = true := by kernel_rfl
theorem jf3 : (Tryz.f5.params.all (Tryz.pinned.checked.prog.readableRec ·)) = true := by kernel_rfl
theorem jf4 : (namedTie Tryz.pinned.checked.prog Rows.fnStructuredRow.named Rows.fnStructuredSpec.vars) = true := by kernel_rfl
theorem jf5 : ((Rows.fnStructuredRow.stops == [])) = true := by kernel_rfl
theorem jf6 : ((Tryz.pinned.checked.prog.stops == [])) = true := by kernel_rfl
theorem jf7 : ((Rows.fnStructuredRow.knobs == [])) = true := by kernel_rfl
theorem jf8 : ((Tryz.pinned.checked.prog.stopKnobs == [])) = true := by kernel_rfl
theorem jf9 : ((Rows.fnStructuredRow.inPlace == Tryz.pinned.checked.prog.inPlace 5)) = true := by kernel_rfl
theorem jf10 : ((Rows.fnStructuredRow.unfollowed == Tryz.pinned.checked.prog.unfollowed 5)) = true := by kernel_rfl
theorem jf11 : ((Rows.fnStructuredRow.recurses == Tryz.pinned.checked.prog.recurses 5)) = true := by kernel_rfl
theorem jf12 : ((Rows.fnStructuredRow.named == Tryz.pinned.checked.prog.varsNamed 5)) = true := by kernel_rfl
theorem jf13 : ((Rows.fnStructuredRow.maps == (Tryz.f5.params.toList ++ Rows.fnStructuredSpec.plain.varTypes Tryz.pinned.checked.prog).any (Tryz.pinned.checked.prog.mapsRec ·))) = true := by kernel_rfl
theorem jf14 : ((Rows.fnStructuredRow.ifaces == (Tryz.f5.params.toList ++ Rows.fnStructuredSpec.plain.varTypes Tryz.pinned.checked.prog).any (Tryz.pinned.checked.prog.ifacesRec ·))) = true := by kernel_rfl
theorem jf15 : ((Rows.fnStructuredRow.mapsOut == Tryz.pinned.checked.prog.mapsAmong Tryz.f5.resultTypes.toList)) = true := by kernel_rfl
theorem jf16 : ((Rows.fnStructuredRow.loops == (Tryz.f5.params.toList ++ Rows.fnStructuredSpec.plain.varTypes Tryz.pinned.checked.prog).any (Tryz.pinned.checked.prog.loopsFrom ·))) = true := by kernel_rfl
theorem jf17 : ((Rows.fnStructuredRow.wideKeys == (Tryz.f5.params.toList ++ Rows.fnStructuredSpec.plain.varTypes Tryz.pinned.checked.prog ++ Tryz.f5.resultTypes.toList).any (Tryz.pinned.checked.prog.wideKeysFrom ·))) = true := by kernel_rfl
theorem jf18 : (Rows.fnStructuredSpec.vars.all (Tryz.pinned.checked.prog.varReadable ·)) = true := by kernel_rfl
theorem jf19 : (Tryz.f5.resultTypes.all (fun t => Tryz.pinned.checked.prog.readableRec t && decide (t < Tryz.pinned.checked.prog.types.size))) = true := by kernel_rfl
theorem jf20 : ((Rows.fnStructuredRow.ifacesOut == Tryz.f5.resultTypes.toList.any (Tryz.pinned.checked.prog.ifacesRec ·))) = true := by kernel_rfl
theorem jf21 : ((Rows.fnStructuredRow.loopsOut == Tryz.f5.resultTypes.toList.any (Tryz.pinned.checked.prog.loopsFrom ·))) = true := by kernel_rfl
theorem jf22 : ((Rows.fnStructuredRow.plainKeys == Tryz.pinned.checked.prog.plainKeys)) = true := by kernel_rfl
theorem jf23 : (Rows.fnStructuredRow.shortTexts.isNone) = true := by kernel_rfl
theorem jf24 : (Tryz.pinned.checked.prog.stopsHeard) = true := by kernel_rfl
theorem jf25 : (Tryz.pinned.checked.prog.mayEnter) = true := by kernel_rfl
theorem jf26 : ((Rows.fnStructuredRow.lifted == Tryz.pinned.checked.prog.liftsFinal)) = true := by kernel_rfl
theorem jf27 : ((Tryz.pinned.checked.prog.make == some Rows.fnStructuredRow.make)) = true := by kernel_rfl
theorem jf28 : ((Rows.fnStructuredRow.kinds == (if Rows.fnStructuredRow.domain.isEmpty then [] else Tryz.f5.params.toList.map fun t => match Tryz.pinned.checked.prog.underlying t with | some (.int k) => some k | _ => none))) = true := by kernel_rfl
theorem jf29 : ((Rows.fnStructuredRow.pinned == Rows.fnStructuredRow.pinnedBy)) = true := by kernel_rfl
theorem jf30 : ((Rows.fnStructuredRow.veiled == (Tryz.f5.params.toList ++ Rows.fnStructuredSpec.plain.varTypes Tryz.pinned.checked.prog ++ Tryz.f5.resultTypes.toList).any (Tryz.pinned.checked.prog.veiledRec ·))) = true := by kernel_rfl
theorem jf31 : (Rows.fnStructuredRow.veiledFits Tryz.pinned.checked.prog Tryz.f5.params.toList (Tryz.f5.params.toList ++ Rows.fnStructuredSpec.plain.varTypes Tryz.pinned.checked.prog ++ Tryz.f5.resultTypes.toList)) = true := by kernel_rfl
theorem structured_closed : joinedFacts Tryz.pinned.checked.prog 5 Tryz.f5 Rows.fnStructuredSpec Rows.fnStructuredRow = true := (and2 (and2 (and2 (and2 (and2 (and2 (and2 (and2 (and2 (and2 (and2 (and2 (and2 (and2 (and2 (and2 (and2 (and2 (and2 (and2 (and2 (and2 (and2 (and2 (and2 (and2 (and2 (and2 (and2 (and2 (and2 jf0 jf1) jf2) jf3) jf4) jf5) jf6) jf7) jf8) jf9) jf10) jf11) jf12) jf13) jf14) jf15) jf16) jf17) jf18) jf19) jf20) jf21) jf22) jf23) jf24) jf25) jf26) jf27) jf28) jf29) jf30) jf31)
theorem structured_named : Tryz.pinned.checked.prog.funcNamed Rows.fnStructuredRow.func = some 5 := by kernel_rfl
end Go.Proofs.YtjbbapodcngnaaaGreatDoor
