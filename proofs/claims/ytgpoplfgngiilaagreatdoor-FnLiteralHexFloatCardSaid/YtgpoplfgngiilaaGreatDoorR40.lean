/- FnLiteralHexFloat, behind its card (F5). -/
import Derived.Test.YtgpoplfgngiilaaGreatDoorChecked
import Derived.Test.YtgpoplfgngiilaaGreatDoorRows
import Derived.ProofKit
set_option linter.unusedVariables false
set_option linter.unusedSimpArgs false
namespace Go.Proofs.YtgpoplfgngiilaaGreatDoor
open Go Go.RowKit Go.ChangeShapes Go.WideShapes Go.ChangeAt
set_option maxRecDepth 1000000
theorem xg1 : Rows.fnLiteralHexFloatRow.wf (OpenSpec.ofChange Rows.fnLiteralHexFloatSpec) = true := by kernel_rfl
theorem xg2 : laidOutB Tryz.prog = true := by kernel_rfl
theorem xg3 : mapsRowed Tryz.prog = true := by kernel_rfl
theorem xg4 : Tryz.f5.params.all (Tryz.prog.readableRec ·) = true := by kernel_rfl
theorem xg5 : namedTie Tryz.prog Rows.fnLiteralHexFloatRow.named Rows.fnLiteralHexFloatSpec.vars = true := by kernel_rfl
theorem xg6 : (Rows.fnLiteralHexFloatRow.stops == []) = true := by kernel_rfl
theorem xg7 : (Tryz.prog.stops == []) = true := by kernel_rfl
theorem xg8 : (Rows.fnLiteralHexFloatRow.knobs == []) = true := by kernel_rfl
theorem xg9 : (Tryz.prog.stopKnobs == []) = true := by kernel_rfl
theorem xg10 : (Rows.fnLiteralHexFloatRow.inPlace == Tryz.prog.inPlace 5) = true := by kernel_rfl
theorem xg11 : (Rows.fnLiteralHexFloatRow.unfollowed == Tryz.prog.unfollowed 5) = true := by kernel_rfl
theorem xg12 : (Rows.fnLiteralHexFloatRow.recurses == Tryz.prog.recurses 5) = true := by kernel_rfl
theorem xg13 : (Rows.fnLiteralHexFloatRow.named == Tryz.prog.varsNamed 5) = true := by kernel_rfl
theorem xg14 : (Rows.fnLiteralHexFloatRow.maps == (Tryz.f5.params.toList ++ Rows.fnLiteralHexFloatSpec.plain.varTypes Tryz.prog).any (Tryz.prog.mapsRec ·)) = true := by kernel_rfl
theorem xg15 : (Rows.fnLiteralHexFloatRow.ifaces == (Tryz.f5.params.toList ++ Rows.fnLiteralHexFloatSpec.plain.varTypes Tryz.prog).any (Tryz.prog.ifacesRec ·)) = true := by kernel_rfl
theorem xg16 : (Rows.fnLiteralHexFloatRow.mapsOut == Tryz.prog.mapsAmong Tryz.f5.resultTypes.toList) = true := by kernel_rfl
theorem xg17 : (Rows.fnLiteralHexFloatRow.loops == (Tryz.f5.params.toList ++ Rows.fnLiteralHexFloatSpec.plain.varTypes Tryz.prog).any (Tryz.prog.loopsFrom ·)) = true := by kernel_rfl
theorem xg18 : (Rows.fnLiteralHexFloatRow.wideKeys == (Tryz.f5.params.toList ++ Rows.fnLiteralHexFloatSpec.plain.varTypes Tryz.prog ++ Tryz.f5.resultTypes.toList).any (Tryz.prog.wideKeysFrom ·)) = true := by kernel_rfl
theorem xg19 : Rows.fnLiteralHexFloatSpec.vars.all (Tryz.prog.varReadable ·) = true := by kernel_rfl
theorem xg20 : Tryz.f5.resultTypes.all (fun t => Tryz.prog.readableRec t && decide (t < Tryz.prog.types.size)) = true := by kernel_rfl
theorem xg21 : (Rows.fnLiteralHexFloatRow.ifacesOut == Tryz.f5.resultTypes.toList.any (Tryz.prog.ifacesRec ·)) = true := by kernel_rfl
theorem xg22 : (Rows.fnLiteralHexFloatRow.loopsOut == Tryz.f5.resultTypes.toList.any (Tryz.prog.loopsFrom ·)) = true := by kernel_rfl
theorem xg23 : (Rows.fnLiteralHexFloatRow.plainKeys == Tryz.prog.plainKeys) = true := by kernel_rfl
theorem xg24 : Rows.fnLiteralHexFloatRow.shortTexts.isNone = true := by kernel_rfl
theorem xg25 : Tryz.prog.stopsHeard = true := by kernel_rfl
theorem xg26 : Tryz.prog.mayEnter = true := by kernel_rfl
theorem xg27 : (Rows.fnLiteralHexFloatRow.lifted == Tryz.prog.liftsFinal) = true := by kernel_rfl
theorem xg28 : (Tryz.prog.make == some Rows.fnLiteralHexFloatRow.make) = true := by kernel_rfl
theorem xg29 : (Rows.fnLiteralHexFloatRow.kinds == (if Rows.fnLiteralHexFloatRow.domain.isEmpty then [] else Tryz.f5.params.toList.map fun t => match Tryz.prog.underlying t with | some (.int k) => some k | _ => none)) = true := by kernel_rfl
theorem xg30 : (Rows.fnLiteralHexFloatRow.pinned == Rows.fnLiteralHexFloatRow.pinnedBy) = true := by kernel_rfl
theorem xg31 : (Rows.fnLiteralHexFloatRow.veiled == (Tryz.f5.params.toList ++ Rows.fnLiteralHexFloatSpec.plain.varTypes Tryz.prog ++ Tryz.f5.resultTypes.toList).any (Tryz.prog.veiledRec ·)) = true := by kernel_rfl
theorem xg32 : Rows.fnLiteralHexFloatRow.veiledFits Tryz.prog Tryz.f5.params.toList (Tryz.f5.params.toList ++ Rows.fnLiteralHexFloatSpec.plain.varTypes Tryz.prog ++ Tryz.f5.resultTypes.toList) = true := by kernel_rfl
end Go.Proofs.YtgpoplfgngiilaaGreatDoor
