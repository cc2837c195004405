/- FnLiteralChar: the row and the card. Own work. -/
import Derived.Test.YtgpoplfgngiilaaGreatDoorC8
import Derived.Test.YtgpoplfgngiilaaGreatDoorF4
import Derived.Test.YtgpoplfgngiilaaGreatDoorFJ
import Derived.Test.YtgpoplfgngiilaaGreatDoorCards
import Derived.Test.YtgpoplfgngiilaaGreatDoorTie
import Derived.SevenTiedAt
namespace Go.Proofs.YtgpoplfgngiilaaGreatDoor
open Go Go.RowKit Go.Shelf Go.Lib Go.ChangeShapes Go.WideShapes Go.ChangeAt
set_option maxRecDepth 1000000

theorem char_joined : joinedFacts Tryz.prog 4 Tryz.f4 Rows.fnLiteralCharSpec Rows.fnLiteralCharRow = true :=
  jf cf1 cf2 cf3 cf4 cf5 cf6 cf7 cf8 cf9 cf10 cf11 cf12 cf13 cf14 cf15 cf16 cf17 cf18 cf19 cf20 cf21 cf22 cf23 cf24 cf25 cf26 cf27 cf28 cf29 cf30 cf31 cf32
theorem char_named : Tryz.prog.funcNamed "loop.example/pub-g03237/laws.FnLiteralChar" = some 4 := by kernel_rfl
theorem char_inst : Tryz.f4.isInstance Tryz.prog Rows.fnLiteralCharRow.origin Rows.fnLiteralCharRow.targs :=
  of_decide_eq_true (by kernel_rfl)
theorem char_wrap : Tryz.f4.isWrapper Tryz.prog Rows.fnLiteralCharRow.wrapper Rows.fnLiteralCharRow.mainSum := by
  unfold Func.isWrapper; first | (rw [if_pos (by decide +kernel)]; kernel_rfl) | (rw [if_neg (by decide +kernel)]; exact ⟨rfl, rfl⟩)

theorem char_holds : Rows.fnLiteralCharRow.holds Tryz.pinned (OpenSpec.ofChange Rows.fnLiteralCharSpec) :=
  OpenClaim.holds_of_wide 4 Tryz.f4 rfl rfl rfl rfl rfl rfl rfl ⟨rfl, rfl, rfl, rfl, rfl⟩ rfl rfl rfl rfl rfl char_named Tryz.func4 char_joined
    char_inst char_wrap
    (fun os started H enc _ => char_lifted os started H enc)

theorem char_wf : Rows.fnLiteralCharRow.wfByText (OpenSpec.ofChange Rows.fnLiteralCharSpec) = true := by kernel_rfl
theorem char_main : Tryz.prog.mainIs = some (true, "8fffb0e42caece08a6f7f5f3c146177005e17b7e3568915d68f8fc414b808779".toList) := by kernel_rfl
theorem char_looks : true = Tryz.prog.looks [] := by kernel_rfl
theorem char_stand : ([41, 5].all fun u => !Tryz.prog.wantsStandIn u) = true := by kernel_rfl
theorem char_goes : false = Rows.fnLiteralCharRow.goesBy Tryz.prog := by kernel_rfl

theorem char_card : Rows.FnLiteralCharCardSaid :=
  Claim7.holds_tied_plain_at .later [] [.data, .data, .data, .data, .sentinel, .sentinel, .sentinel, .data, .sentinel, .sentinel, .data, .data, .data, .data, .pinned] true (true, "8fffb0e42caece08a6f7f5f3c146177005e17b7e3568915d68f8fc414b808779") true char_holds (fun _ h => by cases h) char_wf (fun _ h => by cases h) fnLiteralChar_row_tie rfl ⟨rfl, rfl⟩ char_main rfl
    (fun f fn hf hfn => by
      obtain rfl : f = 4 := Option.some.inj (char_named.symm.trans hf) |>.symm
      obtain rfl : fn = Tryz.f4 := (Option.some.inj (Tryz.func4.symm.trans hfn)).symm
      exact ⟨char_looks, fun j t ht => by
        rw [Tryz.params4] at ht
        have hm : t ∈ [41, 5] := by simpa using Array.mem_of_getElem? ht
        exact (show Tryz.prog.wantsStandIn t = false by simpa using List.all_eq_true.1 char_stand t hm)⟩)
    char_goes
#print axioms char_card
end Go.Proofs.YtgpoplfgngiilaaGreatDoor
