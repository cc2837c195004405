/- The closed facts of FnLiteralChar's row, one by one. Printed by gen_facts.py. Own work. -/
import Derived.Test.YtgpoplfgngiilaaGreatDoorChecked
import Derived.Test.YtgpoplfgngiilaaGreatDoorRows
import Derived.ProofKit
namespace Go.Proofs.YtgpoplfgngiilaaGreatDoor
open Go Go.RowKit Go.ChangeShapes Go.WideShapes Go.ChangeAt
set_option maxRecDepth 1000000
theorem cf1 : Rows.fnLiteralCharRow.wf (OpenSpec.ofChange Rows.fnLiteralCharSpec) = true := by kernel_rfl
theorem cf2 : laidOutB Tryz.prog = true := by kernel_rfl
theorem cf3 : mapsRowed Tryz.prog = true := by kernel_rfl
theorem cf4 : Tryz.f4.params.all (Tryz.prog.readableRec ·) = true := by kernel_rfl
theorem cf5 : namedTie Tryz.prog Rows.fnLiteralCharRow.named Rows.fnLiteralCharSpec.vars = true := by kernel_rfl
theorem cf6 : (Rows.fnLiteralCharRow.stops == []) = true := by kernel_rfl
theorem cf7 : (Tryz.prog.stops == []) = true := by kernel_rfl
theorem cf8 : (Rows.fnLiteralCharRow.knobs == []) = true := by kernel_rfl
theorem cf9 : (Tryz.prog.stopKnobs == []) = true := by kernel_rfl
theorem cf10 : (Rows.fnLiteralCharRow.inPlace == Tryz.prog.inPlace 4) = true := by kernel_rfl
theorem cf11 : (Rows.fnLiteralCharRow.unfollowed == Tryz.prog.unfollowed 4) = true := by kernel_rfl
theorem cf12 : (Rows.fnLiteralCharRow.recurses == Tryz.prog.recurses 4) = true := by kernel_rfl
theorem cf13 : (Rows.fnLiteralCharRow.named == Tryz.prog.varsNamed 4) = true := by kernel_rfl
theorem cf14 : (Rows.fnLiteralCharRow.maps == (Tryz.f4.params.toList ++ Rows.fnLiteralCharSpec.plain.varTypes Tryz.prog).any (Tryz.prog.mapsRec ·)) = true := by kernel_rfl
theorem cf15 : (Rows.fnLiteralCharRow.ifaces == (Tryz.f4.params.toList ++ Rows.fnLiteralCharSpec.plain.varTypes Tryz.prog).any (Tryz.prog.ifacesRec ·)) = true := by kernel_rfl
theorem cf16 : (Rows.fnLiteralCharRow.mapsOut == Tryz.prog.mapsAmong Tryz.f4.resultTypes.toList) = true := by kernel_rfl
theorem cf17 : (Rows.fnLiteralCharRow.loops == (Tryz.f4.params.toList ++ Rows.fnLiteralCharSpec.plain.varTypes Tryz.prog).any (Tryz.prog.loopsFrom ·)) = true := by kernel_rfl
theorem cf18 : (Rows.fnLiteralCharRow.wideKeys == (Tryz.f4.params.toList ++ Rows.fnLiteralCharSpec.plain.varTypes Tryz.prog ++ Tryz.f4.resultTypes.toList).any (Tryz.prog.wideKeysFrom ·)) = true := by kernel_rfl
theorem cf19 : Rows.fnLiteralCharSpec.vars.all (Tryz.prog.varReadable ·) = true := by kernel_rfl
theorem cf20 : Tryz.f4.resultTypes.all (fun t => Tryz.prog.readableRec t && decide (t < Tryz.prog.types.size)) = true := by kernel_rfl
theorem cf21 : (Rows.fnLiteralCharRow.ifacesOut == Tryz.f4.resultTypes.toList.any (Tryz.prog.ifacesRec ·)) = true := by kernel_rfl
theorem cf22 : (Rows.fnLiteralCharRow.loopsOut == Tryz.f4.resultTypes.toList.any (Tryz.prog.loopsFrom ·)) = true := by kernel_rfl
theorem cf23 : (Rows.fnLiteralCharRow.plainKeys == Tryz.prog.plainKeys) = true := by kernel_rfl
theorem cf24 : Rows.fnLiteralCharRow.shortTexts.isNone = true := by kernel_rfl
theorem cf25 : Tryz.prog.stopsHeard = true := by kernel_rfl
theorem cf26 : Tryz.prog.mayEnter = true := by kernel_rfl
theorem cf27 : (Rows.fnLiteralCharRow.lifted == Tryz.prog.liftsFinal) = true := by kernel_rfl
theorem cf28 : (Tryz.prog.make == some Rows.fnLiteralCharRow.make) = true := by kernel_rfl
theorem cf29 : (Rows.fnLiteralCharRow.kinds == (if Rows.fnLiteralCharRow.domain.isEmpty then [] else Tryz.f4.params.toList.map fun t => match Tryz.prog.underlying t with | some (.int k) => some k | _ => none)) = true := by kernel_rfl
theorem cf30 : (Rows.fnLiteralCharRow.pinned == Rows.fnLiteralCharRow.pinnedBy) = true := by kernel_rfl
theorem cf31 : (Rows.fnLiteralCharRow.veiled == (Tryz.f4.params.toList ++ Rows.fnLiteralCharSpec.plain.varTypes Tryz.prog ++ Tryz.f4.resultTypes.toList).any (Tryz.prog.veiledRec ·)) = true := by kernel_rfl
theorem cf32 : Rows.fnLiteralCharRow.veiledFits Tryz.prog Tryz.f4.params.toList (Tryz.f4.params.toList ++ Rows.fnLiteralCharSpec.plain.varTypes Tryz.prog ++ Tryz.f4.resultTypes.toList) = true := by kernel_rfl
end Go.Proofs.YtgpoplfgngiilaaGreatDoor
