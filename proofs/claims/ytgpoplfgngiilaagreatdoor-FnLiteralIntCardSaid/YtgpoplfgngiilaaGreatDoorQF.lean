/- The closed facts of FnLiteralInt's row, one by one. Printed by gen_facts.py. Own work. -/
import Derived.Test.YtgpoplfgngiilaaGreatDoorChecked
import Derived.Test.YtgpoplfgngiilaaGreatDoorRows
import Derived.ProofKit
import Derived.JoinedOf
set_option linter.unusedVariables false
set_option linter.unusedSimpArgs false
namespace Go.Proofs.YtgpoplfgngiilaaGreatDoor
open Go Go.RowKit Go.ChangeShapes Go.WideShapes Go.ChangeAt
set_option maxRecDepth 1000000
theorem xf1 : Rows.fnLiteralIntRow.wf (OpenSpec.ofChange Rows.fnLiteralIntSpec) = true := by kernel_rfl
theorem xf2 : laidOutB Tryz.prog = true := by kernel_rfl
theorem xf3 : mapsRowed Tryz.prog = true := by kernel_rfl
theorem xf4 : Tryz.f3.params.all (Tryz.prog.readableRec ·) = true := by kernel_rfl
theorem xf5 : namedTie Tryz.prog Rows.fnLiteralIntRow.named Rows.fnLiteralIntSpec.vars = true := by kernel_rfl
theorem xf6 : (Rows.fnLiteralIntRow.stops == []) = true := by kernel_rfl
theorem xf7 : (Tryz.prog.stops == []) = true := by kernel_rfl
theorem xf8 : (Rows.fnLiteralIntRow.knobs == []) = true := by kernel_rfl
theorem xf9 : (Tryz.prog.stopKnobs == []) = true := by kernel_rfl
theorem xf10 : (Rows.fnLiteralIntRow.inPlace == Tryz.prog.inPlace 3) = true := by kernel_rfl
theorem xf11 : (Rows.fnLiteralIntRow.unfollowed == Tryz.prog.unfollowed 3) = true := by kernel_rfl
theorem xf12 : (Rows.fnLiteralIntRow.recurses == Tryz.prog.recurses 3) = true := by kernel_rfl
theorem xf13 : (Rows.fnLiteralIntRow.named == Tryz.prog.varsNamed 3) = true := by kernel_rfl
theorem xf14 : (Rows.fnLiteralIntRow.maps == (Tryz.f3.params.toList ++ Rows.fnLiteralIntSpec.plain.varTypes Tryz.prog).any (Tryz.prog.mapsRec ·)) = true := by kernel_rfl
theorem xf15 : (Rows.fnLiteralIntRow.ifaces == (Tryz.f3.params.toList ++ Rows.fnLiteralIntSpec.plain.varTypes Tryz.prog).any (Tryz.prog.ifacesRec ·)) = true := by kernel_rfl
theorem xf16 : (Rows.fnLiteralIntRow.mapsOut == Tryz.prog.mapsAmong Tryz.f3.resultTypes.toList) = true := by kernel_rfl
theorem xf17 : (Rows.fnLiteralIntRow.loops == (Tryz.f3.params.toList ++ Rows.fnLiteralIntSpec.plain.varTypes Tryz.prog).any (Tryz.prog.loopsFrom ·)) = true := by kernel_rfl
theorem xf18 : (Rows.fnLiteralIntRow.wideKeys == (Tryz.f3.params.toList ++ Rows.fnLiteralIntSpec.plain.varTypes Tryz.prog ++ Tryz.f3.resultTypes.toList).any (Tryz.prog.wideKeysFrom ·)) = true := by kernel_rfl
theorem xf19 : Rows.fnLiteralIntSpec.vars.all (Tryz.prog.varReadable ·) = true := by kernel_rfl
theorem xf20 : Tryz.f3.resultTypes.all (fun t => Tryz.prog.readableRec t && decide (t < Tryz.prog.types.size)) = true := by kernel_rfl
theorem xf21 : (Rows.fnLiteralIntRow.ifacesOut == Tryz.f3.resultTypes.toList.any (Tryz.prog.ifacesRec ·)) = true := by kernel_rfl
theorem xf22 : (Rows.fnLiteralIntRow.loopsOut == Tryz.f3.resultTypes.toList.any (Tryz.prog.loopsFrom ·)) = true := by kernel_rfl
theorem xf23 : (Rows.fnLiteralIntRow.plainKeys == Tryz.prog.plainKeys) = true := by kernel_rfl
theorem xf24 : Rows.fnLiteralIntRow.shortTexts.isNone = true := by kernel_rfl
theorem xf25 : Tryz.prog.stopsHeard = true := by kernel_rfl
theorem xf26 : Tryz.prog.mayEnter = true := by kernel_rfl
theorem xf27 : (Rows.fnLiteralIntRow.lifted == Tryz.prog.liftsFinal) = true := by kernel_rfl
theorem xf28 : (Tryz.prog.make == some Rows.fnLiteralIntRow.make) = true := by kernel_rfl
theorem xf29 : (Rows.fnLiteralIntRow.kinds == (if Rows.fnLiteralIntRow.domain.isEmpty then [] else Tryz.f3.params.toList.map fun t => match Tryz.prog.underlying t with | some (.int k) => some k | _ => none)) = true := by kernel_rfl
theorem xf30 : (Rows.fnLiteralIntRow.pinned == Rows.fnLiteralIntRow.pinnedBy) = true := by kernel_rfl
theorem xf31 : (Rows.fnLiteralIntRow.veiled == (Tryz.f3.params.toList ++ Rows.fnLiteralIntSpec.plain.varTypes Tryz.prog ++ Tryz.f3.resultTypes.toList).any (Tryz.prog.veiledRec ·)) = true := by kernel_rfl
theorem xf32 : Rows.fnLiteralIntRow.veiledFits Tryz.prog Tryz.f3.params.toList (Tryz.f3.params.toList ++ Rows.fnLiteralIntSpec.plain.varTypes Tryz.prog ++ Tryz.f3.resultTypes.toList) = true := by kernel_rfl
end Go.Proofs.YtgpoplfgngiilaaGreatDoor
/- The joined facts of a row from the facts one by one. Own work. -/
namespace Go.Proofs.YtgpoplfgngiilaaGreatDoor
open Go Go.RowKit Go.ChangeShapes Go.WideShapes Go.ChangeAt
theorem jf {P : Program} {f : FuncId} {fn : Func} {s : ChangeSpec} {c : OpenClaim}
    (h1 : c.wf (OpenSpec.ofChange s) = true)
    (h2 : laidOutB P = true)
    (h3 : mapsRowed P = true)
    (h4 : fn.params.all (P.readableRec ·) = true)
    (h5 : namedTie P c.named s.vars = true)
    (h6 : (c.stops == []) = true)
    (h7 : (P.stops == []) = true)
    (h8 : (c.knobs == []) = true)
    (h9 : (P.stopKnobs == []) = true)
    (h10 : (c.inPlace == P.inPlace f) = true)
    (h11 : (c.unfollowed == P.unfollowed f) = true)
    (h12 : (c.recurses == P.recurses f) = true)
    (h13 : (c.named == P.varsNamed f) = true)
    (h14 : (c.maps == (fn.params.toList ++ s.plain.varTypes P).any (P.mapsRec ·)) = true)
    (h15 : (c.ifaces == (fn.params.toList ++ s.plain.varTypes P).any (P.ifacesRec ·)) = true)
    (h16 : (c.mapsOut == P.mapsAmong fn.resultTypes.toList) = true)
    (h17 : (c.loops == (fn.params.toList ++ s.plain.varTypes P).any (P.loopsFrom ·)) = true)
    (h18 : (c.wideKeys == (fn.params.toList ++ s.plain.varTypes P ++ fn.resultTypes.toList).any (P.wideKeysFrom ·)) = true)
    (h19 : s.vars.all (P.varReadable ·) = true)
    (h20 : fn.resultTypes.all (fun t => P.readableRec t && decide (t < P.types.size)) = true)
    (h21 : (c.ifacesOut == fn.resultTypes.toList.any (P.ifacesRec ·)) = true)
    (h22 : (c.loopsOut == fn.resultTypes.toList.any (P.loopsFrom ·)) = true)
    (h23 : (c.plainKeys == P.plainKeys) = true)
    (h24 : c.shortTexts.isNone = true)
    (h25 : P.stopsHeard = true)
    (h26 : P.mayEnter = true)
    (h27 : (c.lifted == P.liftsFinal) = true)
    (h28 : (P.make == some c.make) = true)
    (h29 : (c.kinds == (if c.domain.isEmpty then [] else fn.params.toList.map fun t => match P.underlying t with | some (.int k) => some k | _ => none)) = true)
    (h30 : (c.pinned == c.pinnedBy) = true)
    (h31 : (c.veiled == (fn.params.toList ++ s.plain.varTypes P ++ fn.resultTypes.toList).any (P.veiledRec ·)) = true)
    (h32 : c.veiledFits P fn.params.toList (fn.params.toList ++ s.plain.varTypes P ++ fn.resultTypes.toList) = true)
    : joinedFacts P f fn s c = true := by
  unfold joinedFacts
  exact Bool.and_eq_true_iff.2 (by
    simp only [Bool.and_eq_true]
    exact ⟨⟨⟨⟨⟨⟨⟨⟨⟨⟨⟨⟨⟨⟨⟨⟨⟨⟨⟨⟨⟨⟨⟨⟨⟨⟨⟨⟨⟨⟨⟨h1, h2⟩, h3⟩, h4⟩, h5⟩, h6⟩, h7⟩, h8⟩, h9⟩, h10⟩, h11⟩, h12⟩, h13⟩, h14⟩, h15⟩, h16⟩, h17⟩, h18⟩, h19⟩, h20⟩, h21⟩, h22⟩, h23⟩, h24⟩, h25⟩, h26⟩, h27⟩, h28⟩, h29⟩, h30⟩, h31⟩, h32⟩)
end Go.Proofs.YtgpoplfgngiilaaGreatDoor
