/- FnLiteralHexFloat returns true at every argument: the row and the card. No condition. -/
import Derived.Test.YtgpoplfgngiilaaGreatDoorR39
import Derived.Test.YtgpoplfgngiilaaGreatDoorR40
import Derived.Test.YtgpoplfgngiilaaGreatDoorR41
import Derived.Test.YtgpoplfgngiilaaGreatDoorCards
import Derived.Test.YtgpoplfgngiilaaGreatDoorTie
import Derived.SevenTiedAt
set_option linter.unusedVariables false
set_option linter.unusedSimpArgs false
namespace Go.Proofs.YtgpoplfgngiilaaGreatDoor
open Go Go.RowKit Go.Shelf Go.Lib Go.ChangeShapes Go.WideShapes Go.ChangeAt
set_option maxRecDepth 1000000

theorem hex_joined : joinedFacts Tryz.prog 5 Tryz.f5 Rows.fnLiteralHexFloatSpec Rows.fnLiteralHexFloatRow = true :=
  jf xg1 xg2 xg3 xg4 xg5 xg6 xg7 xg8 xg9 xg10 xg11 xg12 xg13 xg14 xg15 xg16 xg17 xg18 xg19 xg20 xg21 xg22 xg23 xg24 xg25 xg26 xg27 xg28 xg29 xg30 xg31 xg32
theorem hex_named : Tryz.prog.funcNamed "loop.example/pub-g03237/laws.FnLiteralHexFloat" = some 5 := by kernel_rfl
theorem hex_inst : Tryz.f5.isInstance Tryz.prog Rows.fnLiteralHexFloatRow.origin Rows.fnLiteralHexFloatRow.targs :=
  of_decide_eq_true (by kernel_rfl)
theorem hex_wrap : Tryz.f5.isWrapper Tryz.prog Rows.fnLiteralHexFloatRow.wrapper Rows.fnLiteralHexFloatRow.mainSum := by
  unfold Func.isWrapper; first | (rw [if_pos (by decide +kernel)]; kernel_rfl) | (rw [if_neg (by decide +kernel)]; exact ⟨rfl, rfl⟩)

theorem hex_holds : Rows.fnLiteralHexFloatRow.holds Tryz.pinned (OpenSpec.ofChange Rows.fnLiteralHexFloatSpec) :=
  OpenClaim.holds_of_wide 5 Tryz.f5 rfl rfl rfl rfl rfl rfl rfl ⟨rfl, rfl, rfl, rfl, rfl⟩ rfl rfl rfl rfl rfl hex_named Tryz.func5 hex_joined
    hex_inst hex_wrap
    (fun os started H enc _ => hex_lifted os started H enc)

theorem hex_wf : Rows.fnLiteralHexFloatRow.wfByText (OpenSpec.ofChange Rows.fnLiteralHexFloatSpec) = true := by kernel_rfl
theorem hex_main : Tryz.prog.mainIs = some (true, "8fffb0e42caece08a6f7f5f3c146177005e17b7e3568915d68f8fc414b808779".toList) := by kernel_rfl
theorem hex_looks : true = Tryz.prog.looks [] := by kernel_rfl
theorem hex_stand : ([47, 5, 48, 5].all fun u => !Tryz.prog.wantsStandIn u) = true := by kernel_rfl
theorem hex_goes : false = Rows.fnLiteralHexFloatRow.goesBy Tryz.prog := by kernel_rfl

theorem hex_card : Rows.FnLiteralHexFloatCardSaid :=
  Claim7.holds_tied_plain_at .later [] [.data, .data, .data, .data, .sentinel, .sentinel, .sentinel, .data, .sentinel, .sentinel, .data, .data, .data, .data, .pinned] true (true, "8fffb0e42caece08a6f7f5f3c146177005e17b7e3568915d68f8fc414b808779") true hex_holds (fun _ h => by cases h) hex_wf (fun _ h => by cases h) fnLiteralHexFloat_row_tie rfl ⟨rfl, rfl⟩ hex_main rfl
    (fun f fn hf hfn => by
      obtain rfl : f = 5 := Option.some.inj (hex_named.symm.trans hf) |>.symm
      obtain rfl : fn = Tryz.f5 := (Option.some.inj (Tryz.func5.symm.trans hfn)).symm
      exact ⟨hex_looks, fun j t ht => by
        rw [Tryz.params5] at ht
        have hm : t ∈ [47, 5, 48, 5] := by simpa using Array.mem_of_getElem? ht
        exact (show Tryz.prog.wantsStandIn t = false by simpa using List.all_eq_true.1 hex_stand t hm)⟩)
    hex_goes
#print axioms hex_card
end Go.Proofs.YtgpoplfgngiilaaGreatDoor
