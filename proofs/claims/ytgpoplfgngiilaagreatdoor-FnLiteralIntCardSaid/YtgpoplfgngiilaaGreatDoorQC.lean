/- FnLiteralInt returns true at every argument: the row and the card. No condition. Own work. -/
import Derived.Test.YtgpoplfgngiilaaGreatDoorQR
import Derived.Test.YtgpoplfgngiilaaGreatDoorQF
import Derived.Test.YtgpoplfgngiilaaGreatDoorCards
import Derived.Test.YtgpoplfgngiilaaGreatDoorTie
import Derived.SevenTiedAt
set_option linter.unusedVariables false
set_option linter.unusedSimpArgs false
namespace Go.Proofs.YtgpoplfgngiilaaGreatDoor
open Go Go.RowKit Go.Shelf Go.Lib Go.ChangeShapes Go.WideShapes Go.ChangeAt
set_option maxRecDepth 1000000

theorem int_joined : joinedFacts Tryz.prog 3 Tryz.f3 Rows.fnLiteralIntSpec Rows.fnLiteralIntRow = true :=
  jf xf1 xf2 xf3 xf4 xf5 xf6 xf7 xf8 xf9 xf10 xf11 xf12 xf13 xf14 xf15 xf16 xf17 xf18 xf19 xf20 xf21 xf22 xf23 xf24 xf25 xf26 xf27 xf28 xf29 xf30 xf31 xf32
theorem int_named : Tryz.prog.funcNamed "loop.example/pub-g03237/laws.FnLiteralInt" = some 3 := by kernel_rfl
theorem int_inst : Tryz.f3.isInstance Tryz.prog Rows.fnLiteralIntRow.origin Rows.fnLiteralIntRow.targs :=
  of_decide_eq_true (by kernel_rfl)
theorem int_wrap : Tryz.f3.isWrapper Tryz.prog Rows.fnLiteralIntRow.wrapper Rows.fnLiteralIntRow.mainSum := by
  unfold Func.isWrapper; first | (rw [if_pos (by decide +kernel)]; kernel_rfl) | (rw [if_neg (by decide +kernel)]; exact ⟨rfl, rfl⟩)

theorem int_holds : Rows.fnLiteralIntRow.holds Tryz.pinned (OpenSpec.ofChange Rows.fnLiteralIntSpec) :=
  OpenClaim.holds_of_wide 3 Tryz.f3 rfl rfl rfl rfl rfl rfl rfl ⟨rfl, rfl, rfl, rfl, rfl⟩ rfl rfl rfl rfl rfl int_named Tryz.func3 int_joined
    int_inst int_wrap
    (fun os started H enc _ => int_lifted os started H enc)

theorem int_wf : Rows.fnLiteralIntRow.wfByText (OpenSpec.ofChange Rows.fnLiteralIntSpec) = true := by kernel_rfl
theorem int_main : Tryz.prog.mainIs = some (true, "8fffb0e42caece08a6f7f5f3c146177005e17b7e3568915d68f8fc414b808779".toList) := by kernel_rfl
theorem int_looks : true = Tryz.prog.looks [] := by kernel_rfl
theorem int_stand : ([26, 5, 4].all fun u => !Tryz.prog.wantsStandIn u) = true := by kernel_rfl
theorem int_goes : false = Rows.fnLiteralIntRow.goesBy Tryz.prog := by kernel_rfl

theorem int_card : Rows.FnLiteralIntCardSaid :=
  Claim7.holds_tied_plain_at .later [] [.data, .data, .data, .data, .sentinel, .sentinel, .sentinel, .data, .sentinel, .sentinel, .data, .data, .data, .data, .pinned] true (true, "8fffb0e42caece08a6f7f5f3c146177005e17b7e3568915d68f8fc414b808779") true int_holds (fun _ h => by cases h) int_wf (fun _ h => by cases h) fnLiteralInt_row_tie rfl ⟨rfl, rfl⟩ int_main rfl
    (fun f fn hf hfn => by
      obtain rfl : f = 3 := Option.some.inj (int_named.symm.trans hf) |>.symm
      obtain rfl : fn = Tryz.f3 := (Option.some.inj (Tryz.func3.symm.trans hfn)).symm
      exact ⟨int_looks, fun j t ht => by
        rw [Tryz.params3] at ht
        have hm : t ∈ [26, 5, 4] := by simpa using Array.mem_of_getElem? ht
        exact (show Tryz.prog.wantsStandIn t = false by simpa using List.all_eq_true.1 int_stand t hm)⟩)
    int_goes
#print axioms int_card
end Go.Proofs.YtgpoplfgngiilaaGreatDoor
